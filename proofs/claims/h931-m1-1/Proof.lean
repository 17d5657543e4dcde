import JvmDerived
import JvmDerived.Pilot.@@N@@Statement
import JvmDerived.Pilot.@@N@@Code
set_option linter.unusedVariables false
set_option linter.unusedSimpArgs false
namespace Jvm.RoadKit
open Sem ClassFile Op Lib Jvm.Stand Jvm.Free Jvm.LawKit
section New
variable {p : Program} {l : Launch} {e : Env} {R : Room} {s : State} {m : MethodId} {args : Array Value} {below : List Frame} {meth : Method} {c : Code} {T : State} {locs : List Loc} {cells slots : Nat}
theorem retI (X : Stand p l e R s m args below meth c T locs cells slots) (hx : p.tables.exec = Jvm.exec) {pc : Nat} {Ls : Array Slot} {z : Int32} {rest : List Value} (hret : meth.sig.returnType = some .int) (hd : decode c.code pc = .ok (.ireturn, 1)) {fs : List Frame}
    (hl : ∀ (f : JFrame) (acts : List Action), f.method = m → f.locked = none → f.entered = [] → (doReturn e (T.setTop f) acts (some (.int z))).1 = T.setFrames fs) : Steps p.tables e below (T.setTop (mkF m pc Ls (.int z :: rest))) (T.setFrames fs) := by
  have hm' : T.vm.method? m = some meth := X.method'
  have hn : narrow .int (.int z) = .int z := rfl
  show Steps p.tables e below (T.setTop { method := m, pc := pc, locals := Ls, stack := _ :: rest, locked := none }) _
  jvm_step X.here [X.here.top, hx, hd, hm', hret, hn]
  first | (intro acts; rw [hl _ acts rfl rfl rfl]) | rw [hl _ _ rfl rfl rfl]
  exact Steps.refl _
end New
end Jvm.RoadKit
namespace Jvm.Pilot.@@N@@
open Jvm Jvm.ClassFile Sem Op Lib Jvm.Free Jvm.Stand Jvm.LawKit Jvm.RoadKit Bundle Jvm.Pilot.@@N@@.Jvm.D
/-- from S the run ends, in a state and with an outcome of which P holds -/
def OGo (p : Program) (e : Env) (below : List Frame) (P : State → Outcome → Prop) (S : State) : Prop :=
  ∃ s₂ o, Steps p.tables e below S s₂ ∧ s₂.status = .running ∧ Ended s₂ below o ∧ P s₂ o
theorem OGo.by {p : Program} {e : Env} {below : List Frame} {P : State → Outcome → Prop} {S S' : State} (h : ∀ t, Steps p.tables e below S' t → Steps p.tables e below S t) (g : OGo p e below P S') : OGo p e below P S := by
  obtain ⟨s₂, o, h1, h2⟩ := g; exact ⟨s₂, o, h _ h1, h2⟩
theorem OGo.of {p : Program} {e : Env} {below : List Frame} {P : State → Outcome → Prop} {S S' : State} (h : Steps p.tables e below S S') (g : OGo p e below P S') : OGo p e below P S := by
  obtain ⟨s₂, o, h1, h2⟩ := g; exact ⟨s₂, o, h.trans h1, h2⟩
theorem OGo.ret {p : Program} {e : Env} {below : List Frame} {P : State → Outcome → Prop} {S S' : State} {o : Outcome} (h : Steps p.tables e below S S') (h1 : S'.status = .running) (h2 : Ended S' below o) (h3 : P S' o) : OGo p e below P S := ⟨S', o, h, h1, h2, h3⟩
theorem own_eqL {args : Array Value} {first s : State} {o : Option Outcome} {idx : List Nat} {t : Term} {n : Int64} (h : (Jvm.Cond.eq t (.long n)).value args first o s idx = some true) : t.eval args first o idx s = some (.long n) := by
  obtain ⟨x, y, h1, h2, -, k⟩ := cmp_v (Or.inl h)
  obtain rfl : y = .long n := (Option.some.inj (h2.symm.trans (long_at n)))
  obtain ⟨z, rfl⟩ := k
  have q := gotT (eq_L h1 h2) h
  rw [h1, q]
theorem d1_0 : decode prog_5_method_4_code 0 = .ok (.lload_n 0, 1) := by decide +kernel
theorem d1_1 : decode prog_5_method_4_code 1 = .ok (.getstatic 140, 3) := by decide +kernel
theorem d1_4 : decode prog_5_method_4_code 4 = .ok (.lcmp, 1) := by decide +kernel
theorem d1_5 : decode prog_5_method_4_code 5 = .ok (.ifCond .lt 15, 3) := by decide +kernel
theorem d1_20 : decode prog_5_method_4_code 20 = .ok (.iconst 0, 1) := by decide +kernel
theorem d1_21 : decode prog_5_method_4_code 21 = .ok (.ireturn, 1) := by decide +kernel
theorem d1_8 : decode prog_5_method_4_code 8 = .ok (.lload_n 0, 1) := by decide +kernel
theorem d1_9 : decode prog_5_method_4_code 9 = .ok (.getstatic 144, 3) := by decide +kernel
theorem d1_12 : decode prog_5_method_4_code 12 = .ok (.lcmp, 1) := by decide +kernel
theorem d1_13 : decode prog_5_method_4_code 13 = .ok (.ifCond .gt 7, 3) := by decide +kernel
theorem d1_16 : decode prog_5_method_4_code 16 = .ok (.iconst 1, 1) := by decide +kernel
theorem d1_17 : decode prog_5_method_4_code 17 = .ok (.goto 4, 3) := by decide +kernel
theorem own_pn1 : plainName "com/example/sluice/sluice/Timestamps" = true := by first | (simp [plainName, overriddenIn]; done) | decide +kernel
theorem ef_rm1 (m : MethodId) (q0 : Int64) : entryFrame m #[(.long q0)] 2 = mkF m 0 #[.val (.long q0), .second] [] := by first | (simp [entryFrame, mkF, argsToLocals, Value.category]; done) | rfl
def own_f1 (q0 : Int64) : Int32 := (if q0 < (-62167219200000 : Int64) then (0 : Int32) else (if (253402300799999 : Int64) < q0 then (0 : Int32) else (1 : Int32)))
def Q_rm1 (Z : State) (q0 : Int64) (h0 : Heap) (n0 : Nat) (v : Option Value) (h : Heap) (L : List Loc) : Prop := v = some (.int (own_f1 q0)) ∧ Fr n0 L ∧ h = h0
set_option maxRecDepth 65536 in
set_option maxHeartbeats 40000000 in
theorem rm1 (l : Launch) (Z : State) (av0 : Array Value) (hw : ∀ d ∈ tables_1, d.before av0 Z = true) (ws : List Jvm.Cond) (q0 : Int64) (h0 : Heap) (n0 : Nat) (Z0 : n0 ≤ h0.size) (S_MIN : Sta Z h0 "com/example/sluice/sluice/Timestamps" "MIN_MILLIS" "J" (.long (-62167219200000 : Int64))) (S_MAX : Sta Z h0 "com/example/sluice/sluice/Timestamps" "MAX_MILLIS" "J" (.long (253402300799999 : Int64))) :
    MetFree l (⟨"com/example/sluice/sluice/Timestamps", "isInRange", "(J)Z"⟩ : MethodName) (head1 (Jvm.Cond.code (⟨"com/example/sluice/sluice/Timestamps", "isInRange", "(J)Z"⟩ : MethodName) prog_5_method_4_code 2 (some .boolean) :: ws) ({ frames := 0, cells := 0, slots := 0, locals := 0 } : Room)) (fun a U => a = #[(.long q0)] ∧ Z.Warmed39 U.vm ∧ U.heap = h0) (fun _ _ _ _ _ => True) (fun _ U o U' => ∃ v L, o = .returned v ∧ Q_rm1 Z q0 h0 n0 v U'.heap L ∧ FrameEnd U o U' L ({ frames := 0, cells := 0, slots := 0, locals := 0 } : Room).cells ({ frames := 0, cells := 0, slots := 0, locals := 0 } : Room).slots) := by
  refine MetFree.of_bodySF (plainFor_of_name own_pn1) hisR ?_
  intro p e s m args below meth c s₁ Bd hml0 hP hK
  obtain ⟨rfl, hZ, hh⟩ := hP
  have hx := Bd.exec
  have hby := Bd.bytes
  have hml : c.maxLocals = 2 := hml0
  have hown : s.vm.findClass "com/example/sluice/sluice/Timestamps" = some m.cls := findClass_of_methodNamed Bd.named
  have hnm := (name_of_methodNamed Bd.named Bd.method).1
  have X0 : Stand p l e ({ frames := 0, cells := 0, slots := 0, locals := 0 } : Room) s m #[(.long q0)] below meth c s₁ [] 0 0 := Stand.of_body Bd
  have e0 : s₁.heap = h0 := by rw [← hh, Bd.state]; rfl
  have N0 := Fr.nil n0
  refine OGo.by (P := fun U' o => ∃ v L, o = .returned v ∧ Q_rm1 Z q0 h0 n0 v U'.heap L ∧ FrameEnd s o U' L ({ frames := 0, cells := 0, slots := 0, locals := 0 } : Room).cells ({ frames := 0, cells := 0, slots := 0, locals := 0 } : Room).slots) (fun t k => castTop (ef_rm1 m q0) k) ?_
  show OGo p e below _ (s₁.setTop (mkF m 0 #[.val (.long q0), .second] []))
  refine OGo.by (fun _ k => XS.lloadN X0.here hx rfl (hb hby d1_0) rfl k) ?_
  show OGo p e below _ (s₁.setTop (mkF m 1 #[.val (.long q0), .second] [(.long q0)]))
  obtain ⟨T1, X1, e1, st1⟩ := getS2 X0 hx hZ hown (host := "") (Or.inl (hw _ (List.mem_of_getElem? (i := 6) rfl))) Via.refl e0 S_MIN (g := (mkF m 1 #[.val (.long q0), .second] [(.long q0)])) rfl (hb hby d1_1)
  refine OGo.by st1 ?_
  show OGo p e below _ (T1.setTop (mkF m 4 #[.val (.long q0), .second] [(.long (-62167219200000 : Int64)), (.long q0)]))
  refine OGo.by (fun _ k => XS.lcmp X1.here hx rfl (hb hby d1_4) rfl k) ?_
  show OGo p e below _ (T1.setTop (mkF m 5 #[.val (.long q0), .second] [(.int (lcmpW q0 (-62167219200000 : Int64)))]))
  by_cases hc5_2 : q0 < (-62167219200000 : Int64)
  · refine OGo.by (fun _ k => XS.ifYes X1.here hx rfl (pc0 := 5) (pc' := 20) rfl (hb hby d1_5) rfl ((if0 _ _).trans (tlt ((lw_lt _ _).mpr hc5_2)).1) (by decide) (by decide) k) ?_
    show OGo p e below _ (T1.setTop (mkF m 20 #[.val (.long q0), .second] []))
    refine OGo.by (fun _ k => XS.iconst X1.here hx rfl (hb hby d1_20) k) ?_
    show OGo p e below _ (T1.setTop (mkF m 21 #[.val (.long q0), .second] [(.int (0 : Int32))]))
    obtain ⟨fs, hr, hrun, hended, hW, hsame⟩ := X1.leave (v := some (.int (0 : Int32))) (fun h => by rw [Bd.returns] at h; cases h)
    refine OGo.ret (retN X1 hx (t := .boolean) Bd.returns (by simp) (hb hby d1_21) hr) hrun hended ⟨_, _, rfl, ?_, ⟨_, rfl⟩, hW, hsame.mono (by decide) (by decide)⟩
    show Q_rm1 Z q0 h0 n0 _ T1.heap _
    rw [e1]
    exact ⟨congrArg (fun z => some (Value.int z)) (by show _ = (own_f1 q0); unfold own_f1; rw [if_pos hc5_2]), N0, rfl⟩
  · refine OGo.by (fun _ k => XS.ifNo X1.here hx rfl (hb hby d1_5) rfl ((if0 _ _).trans (flt (mt (lw_lt _ _).mp hc5_2)).1) k) ?_
    show OGo p e below _ (T1.setTop (mkF m 8 #[.val (.long q0), .second] []))
    refine OGo.by (fun _ k => XS.lloadN X1.here hx rfl (hb hby d1_8) rfl k) ?_
    show OGo p e below _ (T1.setTop (mkF m 9 #[.val (.long q0), .second] [(.long q0)]))
    obtain ⟨T3, X3, e3, st3⟩ := getS2 X1 hx hZ hown (host := "") (Or.inl (hw _ (List.mem_of_getElem? (i := 8) rfl))) Via.refl e1 S_MAX (g := (mkF m 9 #[.val (.long q0), .second] [(.long q0)])) rfl (hb hby d1_9)
    refine OGo.by st3 ?_
    show OGo p e below _ (T3.setTop (mkF m 12 #[.val (.long q0), .second] [(.long (253402300799999 : Int64)), (.long q0)]))
    refine OGo.by (fun _ k => XS.lcmp X3.here hx rfl (hb hby d1_12) rfl k) ?_
    show OGo p e below _ (T3.setTop (mkF m 13 #[.val (.long q0), .second] [(.int (lcmpW q0 (253402300799999 : Int64)))]))
    by_cases hc13_4 : (253402300799999 : Int64) < q0
    · refine OGo.by (fun _ k => XS.ifYes X3.here hx rfl (pc0 := 13) (pc' := 20) rfl (hb hby d1_13) rfl ((if0 _ _).trans (tlt ((lw_gt _ _).mpr hc13_4)).2.2.1) (by decide) (by decide) k) ?_
      show OGo p e below _ (T3.setTop (mkF m 20 #[.val (.long q0), .second] []))
      refine OGo.by (fun _ k => XS.iconst X3.here hx rfl (hb hby d1_20) k) ?_
      show OGo p e below _ (T3.setTop (mkF m 21 #[.val (.long q0), .second] [(.int (0 : Int32))]))
      obtain ⟨fs, hr, hrun, hended, hW, hsame⟩ := X3.leave (v := some (.int (0 : Int32))) (fun h => by rw [Bd.returns] at h; cases h)
      refine OGo.ret (retN X3 hx (t := .boolean) Bd.returns (by simp) (hb hby d1_21) hr) hrun hended ⟨_, _, rfl, ?_, ⟨_, rfl⟩, hW, hsame.mono (by decide) (by decide)⟩
      show Q_rm1 Z q0 h0 n0 _ T3.heap _
      rw [e3]
      exact ⟨congrArg (fun z => some (Value.int z)) (by show _ = (own_f1 q0); unfold own_f1; rw [if_neg hc5_2, if_pos hc13_4]), N0, rfl⟩
    · refine OGo.by (fun _ k => XS.ifNo X3.here hx rfl (hb hby d1_13) rfl ((if0 _ _).trans (flt (mt (lw_gt _ _).mp hc13_4)).2.2.1) k) ?_
      show OGo p e below _ (T3.setTop (mkF m 16 #[.val (.long q0), .second] []))
      refine OGo.by (fun _ k => XS.iconst X3.here hx rfl (hb hby d1_16) k) ?_
      show OGo p e below _ (T3.setTop (mkF m 17 #[.val (.long q0), .second] [(.int (1 : Int32))]))
      refine OGo.by (fun _ k => XS.goto X3.here hx rfl (pc0 := 17) (pc' := 21) rfl (hb hby d1_17) (by decide) (by decide) k) ?_
      show OGo p e below _ (T3.setTop (mkF m 21 #[.val (.long q0), .second] [(.int (1 : Int32))]))
      obtain ⟨fs, hr, hrun, hended, hW, hsame⟩ := X3.leave (v := some (.int (1 : Int32))) (fun h => by rw [Bd.returns] at h; cases h)
      refine OGo.ret (retN X3 hx (t := .boolean) Bd.returns (by simp) (hb hby d1_21) hr) hrun hended ⟨_, _, rfl, ?_, ⟨_, rfl⟩, hW, hsame.mono (by decide) (by decide)⟩
      show Q_rm1 Z q0 h0 n0 _ T3.heap _
      rw [e3]
      exact ⟨congrArg (fun z => some (Value.int z)) (by show _ = (own_f1 q0); unfold own_f1; rw [if_neg hc5_2, if_neg hc13_4]), N0, rfl⟩
theorem own_pd0 : parseMethodDescriptor "(J)Z" = some ⟨[.long], some .boolean⟩ := by decide +kernel
theorem own_pn0 : plainName "com/example/sluice/sluice/TimestampsIsInRangePinLaw" = true := by first | (simp [plainName, overriddenIn]; done) | decide +kernel
theorem ef_rm0 (m : MethodId) (i0 : Int64) (i1 : Int32) : entryFrame m #[(.long i0), (.int i1)] maxLocals = mkF m 0 #[.val (.long i0), .second, .val (.int i1), .unset, .unset, .unset, .unset, .unset, .unset, .unset, .unset, .unset, .unset] [] := by first | (simp [entryFrame, mkF, argsToLocals, Value.category, maxLocals]; done) | rfl
def Q_rm0 (Z : State) (i0 : Int64) (i1 : Int32) (h0 : Heap) (n0 : Nat) (v : Option Value) (h : Heap) (L : List Loc) : Prop := v = some (.int 1) ∧ Fr n0 L
set_option maxRecDepth 65536 in
set_option maxHeartbeats 40000000 in
theorem rm0 (l : Launch) (Z : State) (av0 : Array Value) (hw : ∀ d ∈ tables_1, d.before av0 Z = true) (ws : List Jvm.Cond) (i0 : Int64) (i1 : Int32) (h0 : Heap) (n0 : Nat) (Z0 : n0 ≤ h0.size) (S_MIN : Sta Z h0 "com/example/sluice/sluice/Timestamps" "MIN_MILLIS" "J" (.long (-62167219200000 : Int64))) (S_MAX : Sta Z h0 "com/example/sluice/sluice/Timestamps" "MAX_MILLIS" "J" (.long (253402300799999 : Int64))) :
    MetFree l x (head1 (Jvm.Cond.code x code maxLocals ret :: ws) room_1) (fun a U => a = #[(.long i0), (.int i1)] ∧ Z.Warmed39 U.vm ∧ U.heap = h0) (fun _ _ _ _ _ => True) (fun _ U o U' => ∃ v L, o = .returned v ∧ Q_rm0 Z i0 i1 h0 n0 v U'.heap L ∧ FrameEnd U o U' L room_1.cells room_1.slots) := by
  refine MetFree.of_bodySF (plainFor_of_name own_pn0) hisR ?_
  intro p e s m args below meth c s₁ Bd hml0 hP hK
  obtain ⟨rfl, hZ, hh⟩ := hP
  have hx := Bd.exec
  have hby := Bd.bytes
  have hml : c.maxLocals = 13 := hml0
  have hown : s.vm.findClass "com/example/sluice/sluice/TimestampsIsInRangePinLaw" = some m.cls := findClass_of_methodNamed Bd.named
  have hnm := (name_of_methodNamed Bd.named Bd.method).1
  have X0 : Stand p l e room_1 s m #[(.long i0), (.int i1)] below meth c s₁ [] 0 0 := Stand.of_body Bd
  have e0 : s₁.heap = h0 := by rw [← hh, Bd.state]; rfl
  have N0 := Fr.nil n0
  refine OGo.by (P := fun U' o => ∃ v L, o = .returned v ∧ Q_rm0 Z i0 i1 h0 n0 v U'.heap L ∧ FrameEnd s o U' L room_1.cells room_1.slots) (fun t k => castTop (ef_rm0 m i0 i1) k) ?_
  show OGo p e below _ (s₁.setTop (mkF m 0 #[.val (.long i0), .second, .val (.int i1), .unset, .unset, .unset, .unset, .unset, .unset, .unset, .unset, .unset, .unset] []))
  refine OGo.by (X0.ldc2Long hx hown (mvT hZ (hw _ (List.mem_of_getElem? (i := 0) rfl))) (g := (mkF m 0 #[.val (.long i0), .second, .val (.int i1), .unset, .unset, .unset, .unset, .unset, .unset, .unset, .unset, .unset, .unset] [])) rfl (hb hby at_0)) ?_
  show OGo p e below _ (s₁.setTop (mkF m 3 #[.val (.long i0), .second, .val (.int i1), .unset, .unset, .unset, .unset, .unset, .unset, .unset, .unset, .unset, .unset] [(.long (-62167219200000 : Int64))]))
  refine OGo.by (fun _ k => XS.lstoreN X0.here hx rfl (hb hby at_3) rfl (l' := #[.val (.long i0), .second, .val (.int i1), .val (.long (-62167219200000 : Int64)), .second, .unset, .unset, .unset, .unset, .unset, .unset, .unset, .unset]) rfl k) ?_
  show OGo p e below _ (s₁.setTop (mkF m 4 #[.val (.long i0), .second, .val (.int i1), .val (.long (-62167219200000 : Int64)), .second, .unset, .unset, .unset, .unset, .unset, .unset, .unset, .unset] []))
  refine OGo.by (X0.ldc2Long hx hown (mvT hZ (hw _ (List.mem_of_getElem? (i := 1) rfl))) (g := (mkF m 4 #[.val (.long i0), .second, .val (.int i1), .val (.long (-62167219200000 : Int64)), .second, .unset, .unset, .unset, .unset, .unset, .unset, .unset, .unset] [])) rfl (hb hby at_4)) ?_
  show OGo p e below _ (s₁.setTop (mkF m 7 #[.val (.long i0), .second, .val (.int i1), .val (.long (-62167219200000 : Int64)), .second, .unset, .unset, .unset, .unset, .unset, .unset, .unset, .unset] [(.long (253402300799999 : Int64))]))
  refine OGo.by (fun _ k => XS.lstore X0.here hx rfl (hb hby at_7) rfl (l' := #[.val (.long i0), .second, .val (.int i1), .val (.long (-62167219200000 : Int64)), .second, .val (.long (253402300799999 : Int64)), .second, .unset, .unset, .unset, .unset, .unset, .unset]) rfl k) ?_
  show OGo p e below _ (s₁.setTop (mkF m 9 #[.val (.long i0), .second, .val (.int i1), .val (.long (-62167219200000 : Int64)), .second, .val (.long (253402300799999 : Int64)), .second, .unset, .unset, .unset, .unset, .unset, .unset] []))
  refine OGo.by (fun _ k => XS.iloadN X0.here hx rfl (hb hby at_9) rfl k) ?_
  show OGo p e below _ (s₁.setTop (mkF m 10 #[.val (.long i0), .second, .val (.int i1), .val (.long (-62167219200000 : Int64)), .second, .val (.long (253402300799999 : Int64)), .second, .unset, .unset, .unset, .unset, .unset, .unset] [(.int i1)]))
  refine OGo.by (fun _ k => XS.iconst X0.here hx rfl (hb hby at_10) k) ?_
  show OGo p e below _ (s₁.setTop (mkF m 11 #[.val (.long i0), .second, .val (.int i1), .val (.long (-62167219200000 : Int64)), .second, .val (.long (253402300799999 : Int64)), .second, .unset, .unset, .unset, .unset, .unset, .unset] [(.int (2 : Int32)), (.int i1)]))
  refine OGo.by (fun _ k => XS.ishr X0.here hx rfl (hb hby at_11) rfl k) ?_
  show OGo p e below _ (s₁.setTop (mkF m 12 #[.val (.long i0), .second, .val (.int i1), .val (.long (-62167219200000 : Int64)), .second, .val (.long (253402300799999 : Int64)), .second, .unset, .unset, .unset, .unset, .unset, .unset] [(.int (i1 >>> ((2 : Int32) &&& 31)))]))
  refine OGo.by (fun _ k => XS.i2b X0.here hx rfl (hb hby at_12) rfl k) ?_
  show OGo p e below _ (s₁.setTop (mkF m 13 #[.val (.long i0), .second, .val (.int i1), .val (.long (-62167219200000 : Int64)), .second, .val (.long (253402300799999 : Int64)), .second, .unset, .unset, .unset, .unset, .unset, .unset] [(.int ((i1 >>> ((2 : Int32) &&& 31)).toInt8.toInt32))]))
  refine OGo.by (fun _ k => XS.i2l X0.here hx rfl (hb hby at_13) rfl k) ?_
  show OGo p e below _ (s₁.setTop (mkF m 14 #[.val (.long i0), .second, .val (.int i1), .val (.long (-62167219200000 : Int64)), .second, .val (.long (253402300799999 : Int64)), .second, .unset, .unset, .unset, .unset, .unset, .unset] [(.long (((i1 >>> ((2 : Int32) &&& 31)).toInt8.toInt32).toInt64))]))
  refine OGo.by (fun _ k => XS.lstore X0.here hx rfl (hb hby at_14) rfl (l' := #[.val (.long i0), .second, .val (.int i1), .val (.long (-62167219200000 : Int64)), .second, .val (.long (253402300799999 : Int64)), .second, .val (.long (((i1 >>> ((2 : Int32) &&& 31)).toInt8.toInt32).toInt64)), .second, .unset, .unset, .unset, .unset]) rfl k) ?_
  show OGo p e below _ (s₁.setTop (mkF m 16 #[.val (.long i0), .second, .val (.int i1), .val (.long (-62167219200000 : Int64)), .second, .val (.long (253402300799999 : Int64)), .second, .val (.long (((i1 >>> ((2 : Int32) &&& 31)).toInt8.toInt32).toInt64)), .second, .unset, .unset, .unset, .unset] []))
  refine OGo.by (fun _ k => XS.iloadN X0.here hx rfl (hb hby at_16) rfl k) ?_
  show OGo p e below _ (s₁.setTop (mkF m 17 #[.val (.long i0), .second, .val (.int i1), .val (.long (-62167219200000 : Int64)), .second, .val (.long (253402300799999 : Int64)), .second, .val (.long (((i1 >>> ((2 : Int32) &&& 31)).toInt8.toInt32).toInt64)), .second, .unset, .unset, .unset, .unset] [(.int i1)]))
  refine OGo.by (fun _ k => XS.iconst X0.here hx rfl (hb hby at_17) k) ?_
  show OGo p e below _ (s₁.setTop (mkF m 18 #[.val (.long i0), .second, .val (.int i1), .val (.long (-62167219200000 : Int64)), .second, .val (.long (253402300799999 : Int64)), .second, .val (.long (((i1 >>> ((2 : Int32) &&& 31)).toInt8.toInt32).toInt64)), .second, .unset, .unset, .unset, .unset] [(.int (3 : Int32)), (.int i1)]))
  refine OGo.by (fun _ k => XS.iand X0.here hx rfl (hb hby at_18) rfl k) ?_
  show OGo p e below _ (s₁.setTop (mkF m 19 #[.val (.long i0), .second, .val (.int i1), .val (.long (-62167219200000 : Int64)), .second, .val (.long (253402300799999 : Int64)), .second, .val (.long (((i1 >>> ((2 : Int32) &&& 31)).toInt8.toInt32).toInt64)), .second, .unset, .unset, .unset, .unset] [(.int (i1 &&& (3 : Int32)))]))
  refine OGo.by (fun _ k => XS.istore X0.here hx rfl (hb hby at_19) rfl (l' := #[.val (.long i0), .second, .val (.int i1), .val (.long (-62167219200000 : Int64)), .second, .val (.long (253402300799999 : Int64)), .second, .val (.long (((i1 >>> ((2 : Int32) &&& 31)).toInt8.toInt32).toInt64)), .second, .val (.int (i1 &&& (3 : Int32))), .unset, .unset, .unset]) rfl k) ?_
  show OGo p e below _ (s₁.setTop (mkF m 21 #[.val (.long i0), .second, .val (.int i1), .val (.long (-62167219200000 : Int64)), .second, .val (.long (253402300799999 : Int64)), .second, .val (.long (((i1 >>> ((2 : Int32) &&& 31)).toInt8.toInt32).toInt64)), .second, .val (.int (i1 &&& (3 : Int32))), .unset, .unset, .unset] []))
  refine OGo.by (fun _ k => XS.iload X0.here hx rfl (hb hby at_21) rfl k) ?_
  show OGo p e below _ (s₁.setTop (mkF m 23 #[.val (.long i0), .second, .val (.int i1), .val (.long (-62167219200000 : Int64)), .second, .val (.long (253402300799999 : Int64)), .second, .val (.long (((i1 >>> ((2 : Int32) &&& 31)).toInt8.toInt32).toInt64)), .second, .val (.int (i1 &&& (3 : Int32))), .unset, .unset, .unset] [(.int (i1 &&& (3 : Int32)))]))
  refine OGo.by (fun _ k => XS.iconst X0.here hx rfl (hb hby at_23) k) ?_
  show OGo p e below _ (s₁.setTop (mkF m 24 #[.val (.long i0), .second, .val (.int i1), .val (.long (-62167219200000 : Int64)), .second, .val (.long (253402300799999 : Int64)), .second, .val (.long (((i1 >>> ((2 : Int32) &&& 31)).toInt8.toInt32).toInt64)), .second, .val (.int (i1 &&& (3 : Int32))), .unset, .unset, .unset] [(.int (1 : Int32)), (.int (i1 &&& (3 : Int32)))]))
  by_cases hc24_1 : (i1 &&& (3 : Int32)) = (1 : Int32)
  · refine OGo.by (fun _ k => XS.icmpNo X0.here hx rfl (hb hby at_24) rfl (teq hc24_1).2 k) ?_
    show OGo p e below _ (s₁.setTop (mkF m 27 #[.val (.long i0), .second, .val (.int i1), .val (.long (-62167219200000 : Int64)), .second, .val (.long (253402300799999 : Int64)), .second, .val (.long (((i1 >>> ((2 : Int32) &&& 31)).toInt8.toInt32).toInt64)), .second, .val (.int (i1 &&& (3 : Int32))), .unset, .unset, .unset] []))
    refine OGo.by (fun _ k => XS.lloadN X0.here hx rfl (hb hby at_27) rfl k) ?_
    show OGo p e below _ (s₁.setTop (mkF m 28 #[.val (.long i0), .second, .val (.int i1), .val (.long (-62167219200000 : Int64)), .second, .val (.long (253402300799999 : Int64)), .second, .val (.long (((i1 >>> ((2 : Int32) &&& 31)).toInt8.toInt32).toInt64)), .second, .val (.int (i1 &&& (3 : Int32))), .unset, .unset, .unset] [(.long (-62167219200000 : Int64))]))
    refine OGo.by (fun _ k => XS.lload X0.here hx rfl (hb hby at_28) rfl k) ?_
    show OGo p e below _ (s₁.setTop (mkF m 30 #[.val (.long i0), .second, .val (.int i1), .val (.long (-62167219200000 : Int64)), .second, .val (.long (253402300799999 : Int64)), .second, .val (.long (((i1 >>> ((2 : Int32) &&& 31)).toInt8.toInt32).toInt64)), .second, .val (.int (i1 &&& (3 : Int32))), .unset, .unset, .unset] [(.long (((i1 >>> ((2 : Int32) &&& 31)).toInt8.toInt32).toInt64)), (.long (-62167219200000 : Int64))]))
    refine OGo.by (fun _ k => XS.ladd X0.here hx rfl (hb hby at_30) rfl k) ?_
    show OGo p e below _ (s₁.setTop (mkF m 31 #[.val (.long i0), .second, .val (.int i1), .val (.long (-62167219200000 : Int64)), .second, .val (.long (253402300799999 : Int64)), .second, .val (.long (((i1 >>> ((2 : Int32) &&& 31)).toInt8.toInt32).toInt64)), .second, .val (.int (i1 &&& (3 : Int32))), .unset, .unset, .unset] [(.long ((-62167219200000 : Int64) + (((i1 >>> ((2 : Int32) &&& 31)).toInt8.toInt32).toInt64)))]))
    refine OGo.by (fun _ k => XS.lstore X0.here hx rfl (hb hby at_31) rfl (l' := #[.val (.long i0), .second, .val (.int i1), .val (.long (-62167219200000 : Int64)), .second, .val (.long (253402300799999 : Int64)), .second, .val (.long (((i1 >>> ((2 : Int32) &&& 31)).toInt8.toInt32).toInt64)), .second, .val (.int (i1 &&& (3 : Int32))), .val (.long ((-62167219200000 : Int64) + (((i1 >>> ((2 : Int32) &&& 31)).toInt8.toInt32).toInt64))), .second, .unset]) rfl k) ?_
    show OGo p e below _ (s₁.setTop (mkF m 33 #[.val (.long i0), .second, .val (.int i1), .val (.long (-62167219200000 : Int64)), .second, .val (.long (253402300799999 : Int64)), .second, .val (.long (((i1 >>> ((2 : Int32) &&& 31)).toInt8.toInt32).toInt64)), .second, .val (.int (i1 &&& (3 : Int32))), .val (.long ((-62167219200000 : Int64) + (((i1 >>> ((2 : Int32) &&& 31)).toInt8.toInt32).toInt64))), .second, .unset] []))
    refine OGo.by (fun _ k => XS.goto X0.here hx rfl (pc0 := 33) (pc' := 68) rfl (hb hby at_33) (by decide) (by decide) k) ?_
    show OGo p e below _ (s₁.setTop (mkF m 68 #[.val (.long i0), .second, .val (.int i1), .val (.long (-62167219200000 : Int64)), .second, .val (.long (253402300799999 : Int64)), .second, .val (.long (((i1 >>> ((2 : Int32) &&& 31)).toInt8.toInt32).toInt64)), .second, .val (.int (i1 &&& (3 : Int32))), .val (.long ((-62167219200000 : Int64) + (((i1 >>> ((2 : Int32) &&& 31)).toInt8.toInt32).toInt64))), .second, .unset] []))
    refine OGo.by (fun _ k => XS.lload X0.here hx rfl (hb hby at_68) rfl k) ?_
    show OGo p e below _ (s₁.setTop (mkF m 70 #[.val (.long i0), .second, .val (.int i1), .val (.long (-62167219200000 : Int64)), .second, .val (.long (253402300799999 : Int64)), .second, .val (.long (((i1 >>> ((2 : Int32) &&& 31)).toInt8.toInt32).toInt64)), .second, .val (.int (i1 &&& (3 : Int32))), .val (.long ((-62167219200000 : Int64) + (((i1 >>> ((2 : Int32) &&& 31)).toInt8.toInt32).toInt64))), .second, .unset] [(.long ((-62167219200000 : Int64) + (((i1 >>> ((2 : Int32) &&& 31)).toInt8.toInt32).toInt64)))]))
    refine OGo.by (fun _ k => XS.lloadN X0.here hx rfl (hb hby at_70) rfl k) ?_
    show OGo p e below _ (s₁.setTop (mkF m 71 #[.val (.long i0), .second, .val (.int i1), .val (.long (-62167219200000 : Int64)), .second, .val (.long (253402300799999 : Int64)), .second, .val (.long (((i1 >>> ((2 : Int32) &&& 31)).toInt8.toInt32).toInt64)), .second, .val (.int (i1 &&& (3 : Int32))), .val (.long ((-62167219200000 : Int64) + (((i1 >>> ((2 : Int32) &&& 31)).toInt8.toInt32).toInt64))), .second, .unset] [(.long (-62167219200000 : Int64)), (.long ((-62167219200000 : Int64) + (((i1 >>> ((2 : Int32) &&& 31)).toInt8.toInt32).toInt64)))]))
    refine OGo.by (fun _ k => XS.lcmp X0.here hx rfl (hb hby at_71) rfl k) ?_
    show OGo p e below _ (s₁.setTop (mkF m 72 #[.val (.long i0), .second, .val (.int i1), .val (.long (-62167219200000 : Int64)), .second, .val (.long (253402300799999 : Int64)), .second, .val (.long (((i1 >>> ((2 : Int32) &&& 31)).toInt8.toInt32).toInt64)), .second, .val (.int (i1 &&& (3 : Int32))), .val (.long ((-62167219200000 : Int64) + (((i1 >>> ((2 : Int32) &&& 31)).toInt8.toInt32).toInt64))), .second, .unset] [(.int (lcmpW ((-62167219200000 : Int64) + (((i1 >>> ((2 : Int32) &&& 31)).toInt8.toInt32).toInt64)) (-62167219200000 : Int64)))]))
    by_cases hc72_2 : ((-62167219200000 : Int64) + (((i1 >>> ((2 : Int32) &&& 31)).toInt8.toInt32).toInt64)) < (-62167219200000 : Int64)
    · refine OGo.by (fun _ k => XS.ifYes X0.here hx rfl (pc0 := 72) (pc' := 87) rfl (hb hby at_72) rfl ((if0 _ _).trans (tlt ((lw_lt _ _).mpr hc72_2)).1) (by decide) (by decide) k) ?_
      show OGo p e below _ (s₁.setTop (mkF m 87 #[.val (.long i0), .second, .val (.int i1), .val (.long (-62167219200000 : Int64)), .second, .val (.long (253402300799999 : Int64)), .second, .val (.long (((i1 >>> ((2 : Int32) &&& 31)).toInt8.toInt32).toInt64)), .second, .val (.int (i1 &&& (3 : Int32))), .val (.long ((-62167219200000 : Int64) + (((i1 >>> ((2 : Int32) &&& 31)).toInt8.toInt32).toInt64))), .second, .unset] []))
      refine OGo.by (fun _ k => XS.iconst X0.here hx rfl (hb hby at_87) k) ?_
      show OGo p e below _ (s₁.setTop (mkF m 88 #[.val (.long i0), .second, .val (.int i1), .val (.long (-62167219200000 : Int64)), .second, .val (.long (253402300799999 : Int64)), .second, .val (.long (((i1 >>> ((2 : Int32) &&& 31)).toInt8.toInt32).toInt64)), .second, .val (.int (i1 &&& (3 : Int32))), .val (.long ((-62167219200000 : Int64) + (((i1 >>> ((2 : Int32) &&& 31)).toInt8.toInt32).toInt64))), .second, .unset] [(.int (0 : Int32))]))
      refine OGo.by (fun _ k => XS.istore X0.here hx rfl (hb hby at_88) rfl (l' := #[.val (.long i0), .second, .val (.int i1), .val (.long (-62167219200000 : Int64)), .second, .val (.long (253402300799999 : Int64)), .second, .val (.long (((i1 >>> ((2 : Int32) &&& 31)).toInt8.toInt32).toInt64)), .second, .val (.int (i1 &&& (3 : Int32))), .val (.long ((-62167219200000 : Int64) + (((i1 >>> ((2 : Int32) &&& 31)).toInt8.toInt32).toInt64))), .second, .val (.int (0 : Int32))]) rfl k) ?_
      show OGo p e below _ (s₁.setTop (mkF m 90 #[.val (.long i0), .second, .val (.int i1), .val (.long (-62167219200000 : Int64)), .second, .val (.long (253402300799999 : Int64)), .second, .val (.long (((i1 >>> ((2 : Int32) &&& 31)).toInt8.toInt32).toInt64)), .second, .val (.int (i1 &&& (3 : Int32))), .val (.long ((-62167219200000 : Int64) + (((i1 >>> ((2 : Int32) &&& 31)).toInt8.toInt32).toInt64))), .second, .val (.int (0 : Int32))] []))
      refine OGo.by (fun _ k => XS.lload X0.here hx rfl (hb hby at_90) rfl k) ?_
      show OGo p e below _ (s₁.setTop (mkF m 92 #[.val (.long i0), .second, .val (.int i1), .val (.long (-62167219200000 : Int64)), .second, .val (.long (253402300799999 : Int64)), .second, .val (.long (((i1 >>> ((2 : Int32) &&& 31)).toInt8.toInt32).toInt64)), .second, .val (.int (i1 &&& (3 : Int32))), .val (.long ((-62167219200000 : Int64) + (((i1 >>> ((2 : Int32) &&& 31)).toInt8.toInt32).toInt64))), .second, .val (.int (0 : Int32))] [(.long ((-62167219200000 : Int64) + (((i1 >>> ((2 : Int32) &&& 31)).toInt8.toInt32).toInt64)))]))
      obtain ⟨_, _, ⟨T3, L3, k3, n3⟩, -, X3, ⟨Lc3, hQ3, l3, y3, z3⟩, st3⟩ := Jvm.LawKit.callS X0 hx (y := (⟨"com/example/sluice/sluice/Timestamps", "isInRange", "(J)Z"⟩ : MethodName)) hown (mvT hZ (hw _ (List.mem_of_getElem? (i := 2) rfl))) (mvT hZ (hw _ (List.mem_of_getElem? (i := 3) rfl))) (mvT hZ (hw _ (List.mem_of_getElem? (i := 4) rfl))) (mvT hZ (hw _ (List.mem_of_getElem? (i := 5) rfl))) (by decide) (backOf (W := 0) (rm1 l Z av0 hw [] ((-62167219200000 : Int64) + (((i1 >>> ((2 : Int32) &&& 31)).toInt8.toInt32).toInt64)) h0 n0 Z0 S_MIN S_MAX) hZ (hw _ (List.mem_of_getElem? (i := 5) rfl)) (hw _ (List.mem_of_getElem? (i := 4) rfl)) (by decide) (by decide)) (g := (mkF m 92 #[.val (.long i0), .second, .val (.int i1), .val (.long (-62167219200000 : Int64)), .second, .val (.long (253402300799999 : Int64)), .second, .val (.long (((i1 >>> ((2 : Int32) &&& 31)).toInt8.toInt32).toInt64)), .second, .val (.int (i1 &&& (3 : Int32))), .val (.long ((-62167219200000 : Int64) + (((i1 >>> ((2 : Int32) &&& 31)).toInt8.toInt32).toInt64))), .second, .val (.int (0 : Int32))] [(.long ((-62167219200000 : Int64) + (((i1 >>> ((2 : Int32) &&& 31)).toInt8.toInt32).toInt64)))])) rfl (by rw [hml]; rfl) (argsL := [(.long ((-62167219200000 : Int64) + (((i1 >>> ((2 : Int32) &&& 31)).toInt8.toInt32).toInt64)))]) (rest := []) (lenOf own_pd0 rfl) rfl (by show 2 * 0 + _ ≤ _; exact Nat.le_of_eq rfl) (hb hby at_92) (fun _ _ => ⟨rfl, e0, (by decide : 0 + 0 ≤ _), (by decide : 0 + 0 ≤ _)⟩)
      dsimp only [Pt.U, Pt.locs, Pt.cells, Pt.slots] at X3 l3 y3 z3 st3 hQ3
      subst l3 y3 z3
      obtain ⟨rfl, N3q, e3⟩ := hQ3
      have N3 := Fr.app N0 N3q
      refine OGo.by st3 ?_
      show OGo p e below _ (T3.setTop (mkF m 95 #[.val (.long i0), .second, .val (.int i1), .val (.long (-62167219200000 : Int64)), .second, .val (.long (253402300799999 : Int64)), .second, .val (.long (((i1 >>> ((2 : Int32) &&& 31)).toInt8.toInt32).toInt64)), .second, .val (.int (i1 &&& (3 : Int32))), .val (.long ((-62167219200000 : Int64) + (((i1 >>> ((2 : Int32) &&& 31)).toInt8.toInt32).toInt64))), .second, .val (.int (0 : Int32))] [(.int (own_f1 ((-62167219200000 : Int64) + (((i1 >>> ((2 : Int32) &&& 31)).toInt8.toInt32).toInt64))))]))
      refine OGo.by (fun _ k => XS.iload X3.here hx rfl (hb hby at_95) rfl k) ?_
      show OGo p e below _ (T3.setTop (mkF m 97 #[.val (.long i0), .second, .val (.int i1), .val (.long (-62167219200000 : Int64)), .second, .val (.long (253402300799999 : Int64)), .second, .val (.long (((i1 >>> ((2 : Int32) &&& 31)).toInt8.toInt32).toInt64)), .second, .val (.int (i1 &&& (3 : Int32))), .val (.long ((-62167219200000 : Int64) + (((i1 >>> ((2 : Int32) &&& 31)).toInt8.toInt32).toInt64))), .second, .val (.int (0 : Int32))] [(.int (0 : Int32)), (.int (own_f1 ((-62167219200000 : Int64) + (((i1 >>> ((2 : Int32) &&& 31)).toInt8.toInt32).toInt64))))]))
      refine OGo.by (fun _ k => XS.icmpNo X3.here hx rfl (hb hby at_97) rfl (teq (by unfold own_f1; rw [if_pos hc72_2] : (own_f1 ((-62167219200000 : Int64) + (((i1 >>> ((2 : Int32) &&& 31)).toInt8.toInt32).toInt64))) = (0 : Int32))).2 k) ?_
      show OGo p e below _ (T3.setTop (mkF m 100 #[.val (.long i0), .second, .val (.int i1), .val (.long (-62167219200000 : Int64)), .second, .val (.long (253402300799999 : Int64)), .second, .val (.long (((i1 >>> ((2 : Int32) &&& 31)).toInt8.toInt32).toInt64)), .second, .val (.int (i1 &&& (3 : Int32))), .val (.long ((-62167219200000 : Int64) + (((i1 >>> ((2 : Int32) &&& 31)).toInt8.toInt32).toInt64))), .second, .val (.int (0 : Int32))] []))
      refine OGo.by (fun _ k => XS.iconst X3.here hx rfl (hb hby at_100) k) ?_
      show OGo p e below _ (T3.setTop (mkF m 101 #[.val (.long i0), .second, .val (.int i1), .val (.long (-62167219200000 : Int64)), .second, .val (.long (253402300799999 : Int64)), .second, .val (.long (((i1 >>> ((2 : Int32) &&& 31)).toInt8.toInt32).toInt64)), .second, .val (.int (i1 &&& (3 : Int32))), .val (.long ((-62167219200000 : Int64) + (((i1 >>> ((2 : Int32) &&& 31)).toInt8.toInt32).toInt64))), .second, .val (.int (0 : Int32))] [(.int (1 : Int32))]))
      refine OGo.by (fun _ k => XS.goto X3.here hx rfl (pc0 := 101) (pc' := 105) rfl (hb hby at_101) (by decide) (by decide) k) ?_
      show OGo p e below _ (T3.setTop (mkF m 105 #[.val (.long i0), .second, .val (.int i1), .val (.long (-62167219200000 : Int64)), .second, .val (.long (253402300799999 : Int64)), .second, .val (.long (((i1 >>> ((2 : Int32) &&& 31)).toInt8.toInt32).toInt64)), .second, .val (.int (i1 &&& (3 : Int32))), .val (.long ((-62167219200000 : Int64) + (((i1 >>> ((2 : Int32) &&& 31)).toInt8.toInt32).toInt64))), .second, .val (.int (0 : Int32))] [(.int (1 : Int32))]))
      obtain ⟨fs, hr, hrun, hended, hW, hsame⟩ := X3.leave (v := some (.int (1 : Int32))) (fun h => by rw [Bd.returns] at h; cases h)
      refine OGo.ret (retN X3 hx (t := .boolean) Bd.returns (by simp) (hb hby at_105) hr) hrun hended ⟨_, _, rfl, ?_, ⟨_, rfl⟩, hW, hsame.mono (by decide) (by decide)⟩
      show Q_rm0 Z i0 i1 h0 n0 _ T3.heap _
      rw [e3]
      exact ⟨rfl, N3⟩
    · refine OGo.by (fun _ k => XS.ifNo X0.here hx rfl (hb hby at_72) rfl ((if0 _ _).trans (flt (mt (lw_lt _ _).mp hc72_2)).1) k) ?_
      show OGo p e below _ (s₁.setTop (mkF m 75 #[.val (.long i0), .second, .val (.int i1), .val (.long (-62167219200000 : Int64)), .second, .val (.long (253402300799999 : Int64)), .second, .val (.long (((i1 >>> ((2 : Int32) &&& 31)).toInt8.toInt32).toInt64)), .second, .val (.int (i1 &&& (3 : Int32))), .val (.long ((-62167219200000 : Int64) + (((i1 >>> ((2 : Int32) &&& 31)).toInt8.toInt32).toInt64))), .second, .unset] []))
      refine OGo.by (fun _ k => XS.lload X0.here hx rfl (hb hby at_75) rfl k) ?_
      show OGo p e below _ (s₁.setTop (mkF m 77 #[.val (.long i0), .second, .val (.int i1), .val (.long (-62167219200000 : Int64)), .second, .val (.long (253402300799999 : Int64)), .second, .val (.long (((i1 >>> ((2 : Int32) &&& 31)).toInt8.toInt32).toInt64)), .second, .val (.int (i1 &&& (3 : Int32))), .val (.long ((-62167219200000 : Int64) + (((i1 >>> ((2 : Int32) &&& 31)).toInt8.toInt32).toInt64))), .second, .unset] [(.long ((-62167219200000 : Int64) + (((i1 >>> ((2 : Int32) &&& 31)).toInt8.toInt32).toInt64)))]))
      refine OGo.by (fun _ k => XS.lload X0.here hx rfl (hb hby at_77) rfl k) ?_
      show OGo p e below _ (s₁.setTop (mkF m 79 #[.val (.long i0), .second, .val (.int i1), .val (.long (-62167219200000 : Int64)), .second, .val (.long (253402300799999 : Int64)), .second, .val (.long (((i1 >>> ((2 : Int32) &&& 31)).toInt8.toInt32).toInt64)), .second, .val (.int (i1 &&& (3 : Int32))), .val (.long ((-62167219200000 : Int64) + (((i1 >>> ((2 : Int32) &&& 31)).toInt8.toInt32).toInt64))), .second, .unset] [(.long (253402300799999 : Int64)), (.long ((-62167219200000 : Int64) + (((i1 >>> ((2 : Int32) &&& 31)).toInt8.toInt32).toInt64)))]))
      refine OGo.by (fun _ k => XS.lcmp X0.here hx rfl (hb hby at_79) rfl k) ?_
      show OGo p e below _ (s₁.setTop (mkF m 80 #[.val (.long i0), .second, .val (.int i1), .val (.long (-62167219200000 : Int64)), .second, .val (.long (253402300799999 : Int64)), .second, .val (.long (((i1 >>> ((2 : Int32) &&& 31)).toInt8.toInt32).toInt64)), .second, .val (.int (i1 &&& (3 : Int32))), .val (.long ((-62167219200000 : Int64) + (((i1 >>> ((2 : Int32) &&& 31)).toInt8.toInt32).toInt64))), .second, .unset] [(.int (lcmpW ((-62167219200000 : Int64) + (((i1 >>> ((2 : Int32) &&& 31)).toInt8.toInt32).toInt64)) (253402300799999 : Int64)))]))
      by_cases hc80_4 : (253402300799999 : Int64) < ((-62167219200000 : Int64) + (((i1 >>> ((2 : Int32) &&& 31)).toInt8.toInt32).toInt64))
      · refine OGo.by (fun _ k => XS.ifYes X0.here hx rfl (pc0 := 80) (pc' := 87) rfl (hb hby at_80) rfl ((if0 _ _).trans (tlt ((lw_gt _ _).mpr hc80_4)).2.2.1) (by decide) (by decide) k) ?_
        show OGo p e below _ (s₁.setTop (mkF m 87 #[.val (.long i0), .second, .val (.int i1), .val (.long (-62167219200000 : Int64)), .second, .val (.long (253402300799999 : Int64)), .second, .val (.long (((i1 >>> ((2 : Int32) &&& 31)).toInt8.toInt32).toInt64)), .second, .val (.int (i1 &&& (3 : Int32))), .val (.long ((-62167219200000 : Int64) + (((i1 >>> ((2 : Int32) &&& 31)).toInt8.toInt32).toInt64))), .second, .unset] []))
        refine OGo.by (fun _ k => XS.iconst X0.here hx rfl (hb hby at_87) k) ?_
        show OGo p e below _ (s₁.setTop (mkF m 88 #[.val (.long i0), .second, .val (.int i1), .val (.long (-62167219200000 : Int64)), .second, .val (.long (253402300799999 : Int64)), .second, .val (.long (((i1 >>> ((2 : Int32) &&& 31)).toInt8.toInt32).toInt64)), .second, .val (.int (i1 &&& (3 : Int32))), .val (.long ((-62167219200000 : Int64) + (((i1 >>> ((2 : Int32) &&& 31)).toInt8.toInt32).toInt64))), .second, .unset] [(.int (0 : Int32))]))
        refine OGo.by (fun _ k => XS.istore X0.here hx rfl (hb hby at_88) rfl (l' := #[.val (.long i0), .second, .val (.int i1), .val (.long (-62167219200000 : Int64)), .second, .val (.long (253402300799999 : Int64)), .second, .val (.long (((i1 >>> ((2 : Int32) &&& 31)).toInt8.toInt32).toInt64)), .second, .val (.int (i1 &&& (3 : Int32))), .val (.long ((-62167219200000 : Int64) + (((i1 >>> ((2 : Int32) &&& 31)).toInt8.toInt32).toInt64))), .second, .val (.int (0 : Int32))]) rfl k) ?_
        show OGo p e below _ (s₁.setTop (mkF m 90 #[.val (.long i0), .second, .val (.int i1), .val (.long (-62167219200000 : Int64)), .second, .val (.long (253402300799999 : Int64)), .second, .val (.long (((i1 >>> ((2 : Int32) &&& 31)).toInt8.toInt32).toInt64)), .second, .val (.int (i1 &&& (3 : Int32))), .val (.long ((-62167219200000 : Int64) + (((i1 >>> ((2 : Int32) &&& 31)).toInt8.toInt32).toInt64))), .second, .val (.int (0 : Int32))] []))
        refine OGo.by (fun _ k => XS.lload X0.here hx rfl (hb hby at_90) rfl k) ?_
        show OGo p e below _ (s₁.setTop (mkF m 92 #[.val (.long i0), .second, .val (.int i1), .val (.long (-62167219200000 : Int64)), .second, .val (.long (253402300799999 : Int64)), .second, .val (.long (((i1 >>> ((2 : Int32) &&& 31)).toInt8.toInt32).toInt64)), .second, .val (.int (i1 &&& (3 : Int32))), .val (.long ((-62167219200000 : Int64) + (((i1 >>> ((2 : Int32) &&& 31)).toInt8.toInt32).toInt64))), .second, .val (.int (0 : Int32))] [(.long ((-62167219200000 : Int64) + (((i1 >>> ((2 : Int32) &&& 31)).toInt8.toInt32).toInt64)))]))
        obtain ⟨_, _, ⟨T5, L5, k5, n5⟩, -, X5, ⟨Lc5, hQ5, l5, y5, z5⟩, st5⟩ := Jvm.LawKit.callS X0 hx (y := (⟨"com/example/sluice/sluice/Timestamps", "isInRange", "(J)Z"⟩ : MethodName)) hown (mvT hZ (hw _ (List.mem_of_getElem? (i := 2) rfl))) (mvT hZ (hw _ (List.mem_of_getElem? (i := 3) rfl))) (mvT hZ (hw _ (List.mem_of_getElem? (i := 4) rfl))) (mvT hZ (hw _ (List.mem_of_getElem? (i := 5) rfl))) (by decide) (backOf (W := 0) (rm1 l Z av0 hw [] ((-62167219200000 : Int64) + (((i1 >>> ((2 : Int32) &&& 31)).toInt8.toInt32).toInt64)) h0 n0 Z0 S_MIN S_MAX) hZ (hw _ (List.mem_of_getElem? (i := 5) rfl)) (hw _ (List.mem_of_getElem? (i := 4) rfl)) (by decide) (by decide)) (g := (mkF m 92 #[.val (.long i0), .second, .val (.int i1), .val (.long (-62167219200000 : Int64)), .second, .val (.long (253402300799999 : Int64)), .second, .val (.long (((i1 >>> ((2 : Int32) &&& 31)).toInt8.toInt32).toInt64)), .second, .val (.int (i1 &&& (3 : Int32))), .val (.long ((-62167219200000 : Int64) + (((i1 >>> ((2 : Int32) &&& 31)).toInt8.toInt32).toInt64))), .second, .val (.int (0 : Int32))] [(.long ((-62167219200000 : Int64) + (((i1 >>> ((2 : Int32) &&& 31)).toInt8.toInt32).toInt64)))])) rfl (by rw [hml]; rfl) (argsL := [(.long ((-62167219200000 : Int64) + (((i1 >>> ((2 : Int32) &&& 31)).toInt8.toInt32).toInt64)))]) (rest := []) (lenOf own_pd0 rfl) rfl (by show 2 * 0 + _ ≤ _; exact Nat.le_of_eq rfl) (hb hby at_92) (fun _ _ => ⟨rfl, e0, (by decide : 0 + 0 ≤ _), (by decide : 0 + 0 ≤ _)⟩)
        dsimp only [Pt.U, Pt.locs, Pt.cells, Pt.slots] at X5 l5 y5 z5 st5 hQ5
        subst l5 y5 z5
        obtain ⟨rfl, N5q, e5⟩ := hQ5
        have N5 := Fr.app N0 N5q
        refine OGo.by st5 ?_
        show OGo p e below _ (T5.setTop (mkF m 95 #[.val (.long i0), .second, .val (.int i1), .val (.long (-62167219200000 : Int64)), .second, .val (.long (253402300799999 : Int64)), .second, .val (.long (((i1 >>> ((2 : Int32) &&& 31)).toInt8.toInt32).toInt64)), .second, .val (.int (i1 &&& (3 : Int32))), .val (.long ((-62167219200000 : Int64) + (((i1 >>> ((2 : Int32) &&& 31)).toInt8.toInt32).toInt64))), .second, .val (.int (0 : Int32))] [(.int (own_f1 ((-62167219200000 : Int64) + (((i1 >>> ((2 : Int32) &&& 31)).toInt8.toInt32).toInt64))))]))
        refine OGo.by (fun _ k => XS.iload X5.here hx rfl (hb hby at_95) rfl k) ?_
        show OGo p e below _ (T5.setTop (mkF m 97 #[.val (.long i0), .second, .val (.int i1), .val (.long (-62167219200000 : Int64)), .second, .val (.long (253402300799999 : Int64)), .second, .val (.long (((i1 >>> ((2 : Int32) &&& 31)).toInt8.toInt32).toInt64)), .second, .val (.int (i1 &&& (3 : Int32))), .val (.long ((-62167219200000 : Int64) + (((i1 >>> ((2 : Int32) &&& 31)).toInt8.toInt32).toInt64))), .second, .val (.int (0 : Int32))] [(.int (0 : Int32)), (.int (own_f1 ((-62167219200000 : Int64) + (((i1 >>> ((2 : Int32) &&& 31)).toInt8.toInt32).toInt64))))]))
        refine OGo.by (fun _ k => XS.icmpNo X5.here hx rfl (hb hby at_97) rfl (teq (by unfold own_f1; rw [if_neg hc72_2, if_pos hc80_4] : (own_f1 ((-62167219200000 : Int64) + (((i1 >>> ((2 : Int32) &&& 31)).toInt8.toInt32).toInt64))) = (0 : Int32))).2 k) ?_
        show OGo p e below _ (T5.setTop (mkF m 100 #[.val (.long i0), .second, .val (.int i1), .val (.long (-62167219200000 : Int64)), .second, .val (.long (253402300799999 : Int64)), .second, .val (.long (((i1 >>> ((2 : Int32) &&& 31)).toInt8.toInt32).toInt64)), .second, .val (.int (i1 &&& (3 : Int32))), .val (.long ((-62167219200000 : Int64) + (((i1 >>> ((2 : Int32) &&& 31)).toInt8.toInt32).toInt64))), .second, .val (.int (0 : Int32))] []))
        refine OGo.by (fun _ k => XS.iconst X5.here hx rfl (hb hby at_100) k) ?_
        show OGo p e below _ (T5.setTop (mkF m 101 #[.val (.long i0), .second, .val (.int i1), .val (.long (-62167219200000 : Int64)), .second, .val (.long (253402300799999 : Int64)), .second, .val (.long (((i1 >>> ((2 : Int32) &&& 31)).toInt8.toInt32).toInt64)), .second, .val (.int (i1 &&& (3 : Int32))), .val (.long ((-62167219200000 : Int64) + (((i1 >>> ((2 : Int32) &&& 31)).toInt8.toInt32).toInt64))), .second, .val (.int (0 : Int32))] [(.int (1 : Int32))]))
        refine OGo.by (fun _ k => XS.goto X5.here hx rfl (pc0 := 101) (pc' := 105) rfl (hb hby at_101) (by decide) (by decide) k) ?_
        show OGo p e below _ (T5.setTop (mkF m 105 #[.val (.long i0), .second, .val (.int i1), .val (.long (-62167219200000 : Int64)), .second, .val (.long (253402300799999 : Int64)), .second, .val (.long (((i1 >>> ((2 : Int32) &&& 31)).toInt8.toInt32).toInt64)), .second, .val (.int (i1 &&& (3 : Int32))), .val (.long ((-62167219200000 : Int64) + (((i1 >>> ((2 : Int32) &&& 31)).toInt8.toInt32).toInt64))), .second, .val (.int (0 : Int32))] [(.int (1 : Int32))]))
        obtain ⟨fs, hr, hrun, hended, hW, hsame⟩ := X5.leave (v := some (.int (1 : Int32))) (fun h => by rw [Bd.returns] at h; cases h)
        refine OGo.ret (retN X5 hx (t := .boolean) Bd.returns (by simp) (hb hby at_105) hr) hrun hended ⟨_, _, rfl, ?_, ⟨_, rfl⟩, hW, hsame.mono (by decide) (by decide)⟩
        show Q_rm0 Z i0 i1 h0 n0 _ T5.heap _
        rw [e5]
        exact ⟨rfl, N5⟩
      · refine OGo.by (fun _ k => XS.ifNo X0.here hx rfl (hb hby at_80) rfl ((if0 _ _).trans (flt (mt (lw_gt _ _).mp hc80_4)).2.2.1) k) ?_
        show OGo p e below _ (s₁.setTop (mkF m 83 #[.val (.long i0), .second, .val (.int i1), .val (.long (-62167219200000 : Int64)), .second, .val (.long (253402300799999 : Int64)), .second, .val (.long (((i1 >>> ((2 : Int32) &&& 31)).toInt8.toInt32).toInt64)), .second, .val (.int (i1 &&& (3 : Int32))), .val (.long ((-62167219200000 : Int64) + (((i1 >>> ((2 : Int32) &&& 31)).toInt8.toInt32).toInt64))), .second, .unset] []))
        refine OGo.by (fun _ k => XS.iconst X0.here hx rfl (hb hby at_83) k) ?_
        show OGo p e below _ (s₁.setTop (mkF m 84 #[.val (.long i0), .second, .val (.int i1), .val (.long (-62167219200000 : Int64)), .second, .val (.long (253402300799999 : Int64)), .second, .val (.long (((i1 >>> ((2 : Int32) &&& 31)).toInt8.toInt32).toInt64)), .second, .val (.int (i1 &&& (3 : Int32))), .val (.long ((-62167219200000 : Int64) + (((i1 >>> ((2 : Int32) &&& 31)).toInt8.toInt32).toInt64))), .second, .unset] [(.int (1 : Int32))]))
        refine OGo.by (fun _ k => XS.goto X0.here hx rfl (pc0 := 84) (pc' := 88) rfl (hb hby at_84) (by decide) (by decide) k) ?_
        show OGo p e below _ (s₁.setTop (mkF m 88 #[.val (.long i0), .second, .val (.int i1), .val (.long (-62167219200000 : Int64)), .second, .val (.long (253402300799999 : Int64)), .second, .val (.long (((i1 >>> ((2 : Int32) &&& 31)).toInt8.toInt32).toInt64)), .second, .val (.int (i1 &&& (3 : Int32))), .val (.long ((-62167219200000 : Int64) + (((i1 >>> ((2 : Int32) &&& 31)).toInt8.toInt32).toInt64))), .second, .unset] [(.int (1 : Int32))]))
        refine OGo.by (fun _ k => XS.istore X0.here hx rfl (hb hby at_88) rfl (l' := #[.val (.long i0), .second, .val (.int i1), .val (.long (-62167219200000 : Int64)), .second, .val (.long (253402300799999 : Int64)), .second, .val (.long (((i1 >>> ((2 : Int32) &&& 31)).toInt8.toInt32).toInt64)), .second, .val (.int (i1 &&& (3 : Int32))), .val (.long ((-62167219200000 : Int64) + (((i1 >>> ((2 : Int32) &&& 31)).toInt8.toInt32).toInt64))), .second, .val (.int (1 : Int32))]) rfl k) ?_
        show OGo p e below _ (s₁.setTop (mkF m 90 #[.val (.long i0), .second, .val (.int i1), .val (.long (-62167219200000 : Int64)), .second, .val (.long (253402300799999 : Int64)), .second, .val (.long (((i1 >>> ((2 : Int32) &&& 31)).toInt8.toInt32).toInt64)), .second, .val (.int (i1 &&& (3 : Int32))), .val (.long ((-62167219200000 : Int64) + (((i1 >>> ((2 : Int32) &&& 31)).toInt8.toInt32).toInt64))), .second, .val (.int (1 : Int32))] []))
        refine OGo.by (fun _ k => XS.lload X0.here hx rfl (hb hby at_90) rfl k) ?_
        show OGo p e below _ (s₁.setTop (mkF m 92 #[.val (.long i0), .second, .val (.int i1), .val (.long (-62167219200000 : Int64)), .second, .val (.long (253402300799999 : Int64)), .second, .val (.long (((i1 >>> ((2 : Int32) &&& 31)).toInt8.toInt32).toInt64)), .second, .val (.int (i1 &&& (3 : Int32))), .val (.long ((-62167219200000 : Int64) + (((i1 >>> ((2 : Int32) &&& 31)).toInt8.toInt32).toInt64))), .second, .val (.int (1 : Int32))] [(.long ((-62167219200000 : Int64) + (((i1 >>> ((2 : Int32) &&& 31)).toInt8.toInt32).toInt64)))]))
        obtain ⟨_, _, ⟨T6, L6, k6, n6⟩, -, X6, ⟨Lc6, hQ6, l6, y6, z6⟩, st6⟩ := Jvm.LawKit.callS X0 hx (y := (⟨"com/example/sluice/sluice/Timestamps", "isInRange", "(J)Z"⟩ : MethodName)) hown (mvT hZ (hw _ (List.mem_of_getElem? (i := 2) rfl))) (mvT hZ (hw _ (List.mem_of_getElem? (i := 3) rfl))) (mvT hZ (hw _ (List.mem_of_getElem? (i := 4) rfl))) (mvT hZ (hw _ (List.mem_of_getElem? (i := 5) rfl))) (by decide) (backOf (W := 0) (rm1 l Z av0 hw [] ((-62167219200000 : Int64) + (((i1 >>> ((2 : Int32) &&& 31)).toInt8.toInt32).toInt64)) h0 n0 Z0 S_MIN S_MAX) hZ (hw _ (List.mem_of_getElem? (i := 5) rfl)) (hw _ (List.mem_of_getElem? (i := 4) rfl)) (by decide) (by decide)) (g := (mkF m 92 #[.val (.long i0), .second, .val (.int i1), .val (.long (-62167219200000 : Int64)), .second, .val (.long (253402300799999 : Int64)), .second, .val (.long (((i1 >>> ((2 : Int32) &&& 31)).toInt8.toInt32).toInt64)), .second, .val (.int (i1 &&& (3 : Int32))), .val (.long ((-62167219200000 : Int64) + (((i1 >>> ((2 : Int32) &&& 31)).toInt8.toInt32).toInt64))), .second, .val (.int (1 : Int32))] [(.long ((-62167219200000 : Int64) + (((i1 >>> ((2 : Int32) &&& 31)).toInt8.toInt32).toInt64)))])) rfl (by rw [hml]; rfl) (argsL := [(.long ((-62167219200000 : Int64) + (((i1 >>> ((2 : Int32) &&& 31)).toInt8.toInt32).toInt64)))]) (rest := []) (lenOf own_pd0 rfl) rfl (by show 2 * 0 + _ ≤ _; exact Nat.le_of_eq rfl) (hb hby at_92) (fun _ _ => ⟨rfl, e0, (by decide : 0 + 0 ≤ _), (by decide : 0 + 0 ≤ _)⟩)
        dsimp only [Pt.U, Pt.locs, Pt.cells, Pt.slots] at X6 l6 y6 z6 st6 hQ6
        subst l6 y6 z6
        obtain ⟨rfl, N6q, e6⟩ := hQ6
        have N6 := Fr.app N0 N6q
        refine OGo.by st6 ?_
        show OGo p e below _ (T6.setTop (mkF m 95 #[.val (.long i0), .second, .val (.int i1), .val (.long (-62167219200000 : Int64)), .second, .val (.long (253402300799999 : Int64)), .second, .val (.long (((i1 >>> ((2 : Int32) &&& 31)).toInt8.toInt32).toInt64)), .second, .val (.int (i1 &&& (3 : Int32))), .val (.long ((-62167219200000 : Int64) + (((i1 >>> ((2 : Int32) &&& 31)).toInt8.toInt32).toInt64))), .second, .val (.int (1 : Int32))] [(.int (own_f1 ((-62167219200000 : Int64) + (((i1 >>> ((2 : Int32) &&& 31)).toInt8.toInt32).toInt64))))]))
        refine OGo.by (fun _ k => XS.iload X6.here hx rfl (hb hby at_95) rfl k) ?_
        show OGo p e below _ (T6.setTop (mkF m 97 #[.val (.long i0), .second, .val (.int i1), .val (.long (-62167219200000 : Int64)), .second, .val (.long (253402300799999 : Int64)), .second, .val (.long (((i1 >>> ((2 : Int32) &&& 31)).toInt8.toInt32).toInt64)), .second, .val (.int (i1 &&& (3 : Int32))), .val (.long ((-62167219200000 : Int64) + (((i1 >>> ((2 : Int32) &&& 31)).toInt8.toInt32).toInt64))), .second, .val (.int (1 : Int32))] [(.int (1 : Int32)), (.int (own_f1 ((-62167219200000 : Int64) + (((i1 >>> ((2 : Int32) &&& 31)).toInt8.toInt32).toInt64))))]))
        refine OGo.by (fun _ k => XS.icmpNo X6.here hx rfl (hb hby at_97) rfl (teq (by unfold own_f1; rw [if_neg hc72_2, if_neg hc80_4] : (own_f1 ((-62167219200000 : Int64) + (((i1 >>> ((2 : Int32) &&& 31)).toInt8.toInt32).toInt64))) = (1 : Int32))).2 k) ?_
        show OGo p e below _ (T6.setTop (mkF m 100 #[.val (.long i0), .second, .val (.int i1), .val (.long (-62167219200000 : Int64)), .second, .val (.long (253402300799999 : Int64)), .second, .val (.long (((i1 >>> ((2 : Int32) &&& 31)).toInt8.toInt32).toInt64)), .second, .val (.int (i1 &&& (3 : Int32))), .val (.long ((-62167219200000 : Int64) + (((i1 >>> ((2 : Int32) &&& 31)).toInt8.toInt32).toInt64))), .second, .val (.int (1 : Int32))] []))
        refine OGo.by (fun _ k => XS.iconst X6.here hx rfl (hb hby at_100) k) ?_
        show OGo p e below _ (T6.setTop (mkF m 101 #[.val (.long i0), .second, .val (.int i1), .val (.long (-62167219200000 : Int64)), .second, .val (.long (253402300799999 : Int64)), .second, .val (.long (((i1 >>> ((2 : Int32) &&& 31)).toInt8.toInt32).toInt64)), .second, .val (.int (i1 &&& (3 : Int32))), .val (.long ((-62167219200000 : Int64) + (((i1 >>> ((2 : Int32) &&& 31)).toInt8.toInt32).toInt64))), .second, .val (.int (1 : Int32))] [(.int (1 : Int32))]))
        refine OGo.by (fun _ k => XS.goto X6.here hx rfl (pc0 := 101) (pc' := 105) rfl (hb hby at_101) (by decide) (by decide) k) ?_
        show OGo p e below _ (T6.setTop (mkF m 105 #[.val (.long i0), .second, .val (.int i1), .val (.long (-62167219200000 : Int64)), .second, .val (.long (253402300799999 : Int64)), .second, .val (.long (((i1 >>> ((2 : Int32) &&& 31)).toInt8.toInt32).toInt64)), .second, .val (.int (i1 &&& (3 : Int32))), .val (.long ((-62167219200000 : Int64) + (((i1 >>> ((2 : Int32) &&& 31)).toInt8.toInt32).toInt64))), .second, .val (.int (1 : Int32))] [(.int (1 : Int32))]))
        obtain ⟨fs, hr, hrun, hended, hW, hsame⟩ := X6.leave (v := some (.int (1 : Int32))) (fun h => by rw [Bd.returns] at h; cases h)
        refine OGo.ret (retN X6 hx (t := .boolean) Bd.returns (by simp) (hb hby at_105) hr) hrun hended ⟨_, _, rfl, ?_, ⟨_, rfl⟩, hW, hsame.mono (by decide) (by decide)⟩
        show Q_rm0 Z i0 i1 h0 n0 _ T6.heap _
        rw [e6]
        exact ⟨rfl, N6⟩
  · refine OGo.by (fun _ k => XS.icmpYes X0.here hx rfl (pc0 := 24) (pc' := 36) rfl (hb hby at_24) rfl (feq hc24_1).2 (by decide) (by decide) k) ?_
    show OGo p e below _ (s₁.setTop (mkF m 36 #[.val (.long i0), .second, .val (.int i1), .val (.long (-62167219200000 : Int64)), .second, .val (.long (253402300799999 : Int64)), .second, .val (.long (((i1 >>> ((2 : Int32) &&& 31)).toInt8.toInt32).toInt64)), .second, .val (.int (i1 &&& (3 : Int32))), .unset, .unset, .unset] []))
    refine OGo.by (fun _ k => XS.iload X0.here hx rfl (hb hby at_36) rfl k) ?_
    show OGo p e below _ (s₁.setTop (mkF m 38 #[.val (.long i0), .second, .val (.int i1), .val (.long (-62167219200000 : Int64)), .second, .val (.long (253402300799999 : Int64)), .second, .val (.long (((i1 >>> ((2 : Int32) &&& 31)).toInt8.toInt32).toInt64)), .second, .val (.int (i1 &&& (3 : Int32))), .unset, .unset, .unset] [(.int (i1 &&& (3 : Int32)))]))
    refine OGo.by (fun _ k => XS.iconst X0.here hx rfl (hb hby at_38) k) ?_
    show OGo p e below _ (s₁.setTop (mkF m 39 #[.val (.long i0), .second, .val (.int i1), .val (.long (-62167219200000 : Int64)), .second, .val (.long (253402300799999 : Int64)), .second, .val (.long (((i1 >>> ((2 : Int32) &&& 31)).toInt8.toInt32).toInt64)), .second, .val (.int (i1 &&& (3 : Int32))), .unset, .unset, .unset] [(.int (2 : Int32)), (.int (i1 &&& (3 : Int32)))]))
    by_cases hc39_7 : (i1 &&& (3 : Int32)) = (2 : Int32)
    · refine OGo.by (fun _ k => XS.icmpNo X0.here hx rfl (hb hby at_39) rfl (teq hc39_7).2 k) ?_
      show OGo p e below _ (s₁.setTop (mkF m 42 #[.val (.long i0), .second, .val (.int i1), .val (.long (-62167219200000 : Int64)), .second, .val (.long (253402300799999 : Int64)), .second, .val (.long (((i1 >>> ((2 : Int32) &&& 31)).toInt8.toInt32).toInt64)), .second, .val (.int (i1 &&& (3 : Int32))), .unset, .unset, .unset] []))
      refine OGo.by (fun _ k => XS.lload X0.here hx rfl (hb hby at_42) rfl k) ?_
      show OGo p e below _ (s₁.setTop (mkF m 44 #[.val (.long i0), .second, .val (.int i1), .val (.long (-62167219200000 : Int64)), .second, .val (.long (253402300799999 : Int64)), .second, .val (.long (((i1 >>> ((2 : Int32) &&& 31)).toInt8.toInt32).toInt64)), .second, .val (.int (i1 &&& (3 : Int32))), .unset, .unset, .unset] [(.long (253402300799999 : Int64))]))
      refine OGo.by (fun _ k => XS.lload X0.here hx rfl (hb hby at_44) rfl k) ?_
      show OGo p e below _ (s₁.setTop (mkF m 46 #[.val (.long i0), .second, .val (.int i1), .val (.long (-62167219200000 : Int64)), .second, .val (.long (253402300799999 : Int64)), .second, .val (.long (((i1 >>> ((2 : Int32) &&& 31)).toInt8.toInt32).toInt64)), .second, .val (.int (i1 &&& (3 : Int32))), .unset, .unset, .unset] [(.long (((i1 >>> ((2 : Int32) &&& 31)).toInt8.toInt32).toInt64)), (.long (253402300799999 : Int64))]))
      refine OGo.by (fun _ k => XS.ladd X0.here hx rfl (hb hby at_46) rfl k) ?_
      show OGo p e below _ (s₁.setTop (mkF m 47 #[.val (.long i0), .second, .val (.int i1), .val (.long (-62167219200000 : Int64)), .second, .val (.long (253402300799999 : Int64)), .second, .val (.long (((i1 >>> ((2 : Int32) &&& 31)).toInt8.toInt32).toInt64)), .second, .val (.int (i1 &&& (3 : Int32))), .unset, .unset, .unset] [(.long ((253402300799999 : Int64) + (((i1 >>> ((2 : Int32) &&& 31)).toInt8.toInt32).toInt64)))]))
      refine OGo.by (fun _ k => XS.lstore X0.here hx rfl (hb hby at_47) rfl (l' := #[.val (.long i0), .second, .val (.int i1), .val (.long (-62167219200000 : Int64)), .second, .val (.long (253402300799999 : Int64)), .second, .val (.long (((i1 >>> ((2 : Int32) &&& 31)).toInt8.toInt32).toInt64)), .second, .val (.int (i1 &&& (3 : Int32))), .val (.long ((253402300799999 : Int64) + (((i1 >>> ((2 : Int32) &&& 31)).toInt8.toInt32).toInt64))), .second, .unset]) rfl k) ?_
      show OGo p e below _ (s₁.setTop (mkF m 49 #[.val (.long i0), .second, .val (.int i1), .val (.long (-62167219200000 : Int64)), .second, .val (.long (253402300799999 : Int64)), .second, .val (.long (((i1 >>> ((2 : Int32) &&& 31)).toInt8.toInt32).toInt64)), .second, .val (.int (i1 &&& (3 : Int32))), .val (.long ((253402300799999 : Int64) + (((i1 >>> ((2 : Int32) &&& 31)).toInt8.toInt32).toInt64))), .second, .unset] []))
      refine OGo.by (fun _ k => XS.goto X0.here hx rfl (pc0 := 49) (pc' := 68) rfl (hb hby at_49) (by decide) (by decide) k) ?_
      show OGo p e below _ (s₁.setTop (mkF m 68 #[.val (.long i0), .second, .val (.int i1), .val (.long (-62167219200000 : Int64)), .second, .val (.long (253402300799999 : Int64)), .second, .val (.long (((i1 >>> ((2 : Int32) &&& 31)).toInt8.toInt32).toInt64)), .second, .val (.int (i1 &&& (3 : Int32))), .val (.long ((253402300799999 : Int64) + (((i1 >>> ((2 : Int32) &&& 31)).toInt8.toInt32).toInt64))), .second, .unset] []))
      refine OGo.by (fun _ k => XS.lload X0.here hx rfl (hb hby at_68) rfl k) ?_
      show OGo p e below _ (s₁.setTop (mkF m 70 #[.val (.long i0), .second, .val (.int i1), .val (.long (-62167219200000 : Int64)), .second, .val (.long (253402300799999 : Int64)), .second, .val (.long (((i1 >>> ((2 : Int32) &&& 31)).toInt8.toInt32).toInt64)), .second, .val (.int (i1 &&& (3 : Int32))), .val (.long ((253402300799999 : Int64) + (((i1 >>> ((2 : Int32) &&& 31)).toInt8.toInt32).toInt64))), .second, .unset] [(.long ((253402300799999 : Int64) + (((i1 >>> ((2 : Int32) &&& 31)).toInt8.toInt32).toInt64)))]))
      refine OGo.by (fun _ k => XS.lloadN X0.here hx rfl (hb hby at_70) rfl k) ?_
      show OGo p e below _ (s₁.setTop (mkF m 71 #[.val (.long i0), .second, .val (.int i1), .val (.long (-62167219200000 : Int64)), .second, .val (.long (253402300799999 : Int64)), .second, .val (.long (((i1 >>> ((2 : Int32) &&& 31)).toInt8.toInt32).toInt64)), .second, .val (.int (i1 &&& (3 : Int32))), .val (.long ((253402300799999 : Int64) + (((i1 >>> ((2 : Int32) &&& 31)).toInt8.toInt32).toInt64))), .second, .unset] [(.long (-62167219200000 : Int64)), (.long ((253402300799999 : Int64) + (((i1 >>> ((2 : Int32) &&& 31)).toInt8.toInt32).toInt64)))]))
      refine OGo.by (fun _ k => XS.lcmp X0.here hx rfl (hb hby at_71) rfl k) ?_
      show OGo p e below _ (s₁.setTop (mkF m 72 #[.val (.long i0), .second, .val (.int i1), .val (.long (-62167219200000 : Int64)), .second, .val (.long (253402300799999 : Int64)), .second, .val (.long (((i1 >>> ((2 : Int32) &&& 31)).toInt8.toInt32).toInt64)), .second, .val (.int (i1 &&& (3 : Int32))), .val (.long ((253402300799999 : Int64) + (((i1 >>> ((2 : Int32) &&& 31)).toInt8.toInt32).toInt64))), .second, .unset] [(.int (lcmpW ((253402300799999 : Int64) + (((i1 >>> ((2 : Int32) &&& 31)).toInt8.toInt32).toInt64)) (-62167219200000 : Int64)))]))
      by_cases hc72_8 : ((253402300799999 : Int64) + (((i1 >>> ((2 : Int32) &&& 31)).toInt8.toInt32).toInt64)) < (-62167219200000 : Int64)
      · refine OGo.by (fun _ k => XS.ifYes X0.here hx rfl (pc0 := 72) (pc' := 87) rfl (hb hby at_72) rfl ((if0 _ _).trans (tlt ((lw_lt _ _).mpr hc72_8)).1) (by decide) (by decide) k) ?_
        show OGo p e below _ (s₁.setTop (mkF m 87 #[.val (.long i0), .second, .val (.int i1), .val (.long (-62167219200000 : Int64)), .second, .val (.long (253402300799999 : Int64)), .second, .val (.long (((i1 >>> ((2 : Int32) &&& 31)).toInt8.toInt32).toInt64)), .second, .val (.int (i1 &&& (3 : Int32))), .val (.long ((253402300799999 : Int64) + (((i1 >>> ((2 : Int32) &&& 31)).toInt8.toInt32).toInt64))), .second, .unset] []))
        refine OGo.by (fun _ k => XS.iconst X0.here hx rfl (hb hby at_87) k) ?_
        show OGo p e below _ (s₁.setTop (mkF m 88 #[.val (.long i0), .second, .val (.int i1), .val (.long (-62167219200000 : Int64)), .second, .val (.long (253402300799999 : Int64)), .second, .val (.long (((i1 >>> ((2 : Int32) &&& 31)).toInt8.toInt32).toInt64)), .second, .val (.int (i1 &&& (3 : Int32))), .val (.long ((253402300799999 : Int64) + (((i1 >>> ((2 : Int32) &&& 31)).toInt8.toInt32).toInt64))), .second, .unset] [(.int (0 : Int32))]))
        refine OGo.by (fun _ k => XS.istore X0.here hx rfl (hb hby at_88) rfl (l' := #[.val (.long i0), .second, .val (.int i1), .val (.long (-62167219200000 : Int64)), .second, .val (.long (253402300799999 : Int64)), .second, .val (.long (((i1 >>> ((2 : Int32) &&& 31)).toInt8.toInt32).toInt64)), .second, .val (.int (i1 &&& (3 : Int32))), .val (.long ((253402300799999 : Int64) + (((i1 >>> ((2 : Int32) &&& 31)).toInt8.toInt32).toInt64))), .second, .val (.int (0 : Int32))]) rfl k) ?_
        show OGo p e below _ (s₁.setTop (mkF m 90 #[.val (.long i0), .second, .val (.int i1), .val (.long (-62167219200000 : Int64)), .second, .val (.long (253402300799999 : Int64)), .second, .val (.long (((i1 >>> ((2 : Int32) &&& 31)).toInt8.toInt32).toInt64)), .second, .val (.int (i1 &&& (3 : Int32))), .val (.long ((253402300799999 : Int64) + (((i1 >>> ((2 : Int32) &&& 31)).toInt8.toInt32).toInt64))), .second, .val (.int (0 : Int32))] []))
        refine OGo.by (fun _ k => XS.lload X0.here hx rfl (hb hby at_90) rfl k) ?_
        show OGo p e below _ (s₁.setTop (mkF m 92 #[.val (.long i0), .second, .val (.int i1), .val (.long (-62167219200000 : Int64)), .second, .val (.long (253402300799999 : Int64)), .second, .val (.long (((i1 >>> ((2 : Int32) &&& 31)).toInt8.toInt32).toInt64)), .second, .val (.int (i1 &&& (3 : Int32))), .val (.long ((253402300799999 : Int64) + (((i1 >>> ((2 : Int32) &&& 31)).toInt8.toInt32).toInt64))), .second, .val (.int (0 : Int32))] [(.long ((253402300799999 : Int64) + (((i1 >>> ((2 : Int32) &&& 31)).toInt8.toInt32).toInt64)))]))
        obtain ⟨_, _, ⟨T9, L9, k9, n9⟩, -, X9, ⟨Lc9, hQ9, l9, y9, z9⟩, st9⟩ := Jvm.LawKit.callS X0 hx (y := (⟨"com/example/sluice/sluice/Timestamps", "isInRange", "(J)Z"⟩ : MethodName)) hown (mvT hZ (hw _ (List.mem_of_getElem? (i := 2) rfl))) (mvT hZ (hw _ (List.mem_of_getElem? (i := 3) rfl))) (mvT hZ (hw _ (List.mem_of_getElem? (i := 4) rfl))) (mvT hZ (hw _ (List.mem_of_getElem? (i := 5) rfl))) (by decide) (backOf (W := 0) (rm1 l Z av0 hw [] ((253402300799999 : Int64) + (((i1 >>> ((2 : Int32) &&& 31)).toInt8.toInt32).toInt64)) h0 n0 Z0 S_MIN S_MAX) hZ (hw _ (List.mem_of_getElem? (i := 5) rfl)) (hw _ (List.mem_of_getElem? (i := 4) rfl)) (by decide) (by decide)) (g := (mkF m 92 #[.val (.long i0), .second, .val (.int i1), .val (.long (-62167219200000 : Int64)), .second, .val (.long (253402300799999 : Int64)), .second, .val (.long (((i1 >>> ((2 : Int32) &&& 31)).toInt8.toInt32).toInt64)), .second, .val (.int (i1 &&& (3 : Int32))), .val (.long ((253402300799999 : Int64) + (((i1 >>> ((2 : Int32) &&& 31)).toInt8.toInt32).toInt64))), .second, .val (.int (0 : Int32))] [(.long ((253402300799999 : Int64) + (((i1 >>> ((2 : Int32) &&& 31)).toInt8.toInt32).toInt64)))])) rfl (by rw [hml]; rfl) (argsL := [(.long ((253402300799999 : Int64) + (((i1 >>> ((2 : Int32) &&& 31)).toInt8.toInt32).toInt64)))]) (rest := []) (lenOf own_pd0 rfl) rfl (by show 2 * 0 + _ ≤ _; exact Nat.le_of_eq rfl) (hb hby at_92) (fun _ _ => ⟨rfl, e0, (by decide : 0 + 0 ≤ _), (by decide : 0 + 0 ≤ _)⟩)
        dsimp only [Pt.U, Pt.locs, Pt.cells, Pt.slots] at X9 l9 y9 z9 st9 hQ9
        subst l9 y9 z9
        obtain ⟨rfl, N9q, e9⟩ := hQ9
        have N9 := Fr.app N0 N9q
        refine OGo.by st9 ?_
        show OGo p e below _ (T9.setTop (mkF m 95 #[.val (.long i0), .second, .val (.int i1), .val (.long (-62167219200000 : Int64)), .second, .val (.long (253402300799999 : Int64)), .second, .val (.long (((i1 >>> ((2 : Int32) &&& 31)).toInt8.toInt32).toInt64)), .second, .val (.int (i1 &&& (3 : Int32))), .val (.long ((253402300799999 : Int64) + (((i1 >>> ((2 : Int32) &&& 31)).toInt8.toInt32).toInt64))), .second, .val (.int (0 : Int32))] [(.int (own_f1 ((253402300799999 : Int64) + (((i1 >>> ((2 : Int32) &&& 31)).toInt8.toInt32).toInt64))))]))
        refine OGo.by (fun _ k => XS.iload X9.here hx rfl (hb hby at_95) rfl k) ?_
        show OGo p e below _ (T9.setTop (mkF m 97 #[.val (.long i0), .second, .val (.int i1), .val (.long (-62167219200000 : Int64)), .second, .val (.long (253402300799999 : Int64)), .second, .val (.long (((i1 >>> ((2 : Int32) &&& 31)).toInt8.toInt32).toInt64)), .second, .val (.int (i1 &&& (3 : Int32))), .val (.long ((253402300799999 : Int64) + (((i1 >>> ((2 : Int32) &&& 31)).toInt8.toInt32).toInt64))), .second, .val (.int (0 : Int32))] [(.int (0 : Int32)), (.int (own_f1 ((253402300799999 : Int64) + (((i1 >>> ((2 : Int32) &&& 31)).toInt8.toInt32).toInt64))))]))
        refine OGo.by (fun _ k => XS.icmpNo X9.here hx rfl (hb hby at_97) rfl (teq (by unfold own_f1; rw [if_pos hc72_8] : (own_f1 ((253402300799999 : Int64) + (((i1 >>> ((2 : Int32) &&& 31)).toInt8.toInt32).toInt64))) = (0 : Int32))).2 k) ?_
        show OGo p e below _ (T9.setTop (mkF m 100 #[.val (.long i0), .second, .val (.int i1), .val (.long (-62167219200000 : Int64)), .second, .val (.long (253402300799999 : Int64)), .second, .val (.long (((i1 >>> ((2 : Int32) &&& 31)).toInt8.toInt32).toInt64)), .second, .val (.int (i1 &&& (3 : Int32))), .val (.long ((253402300799999 : Int64) + (((i1 >>> ((2 : Int32) &&& 31)).toInt8.toInt32).toInt64))), .second, .val (.int (0 : Int32))] []))
        refine OGo.by (fun _ k => XS.iconst X9.here hx rfl (hb hby at_100) k) ?_
        show OGo p e below _ (T9.setTop (mkF m 101 #[.val (.long i0), .second, .val (.int i1), .val (.long (-62167219200000 : Int64)), .second, .val (.long (253402300799999 : Int64)), .second, .val (.long (((i1 >>> ((2 : Int32) &&& 31)).toInt8.toInt32).toInt64)), .second, .val (.int (i1 &&& (3 : Int32))), .val (.long ((253402300799999 : Int64) + (((i1 >>> ((2 : Int32) &&& 31)).toInt8.toInt32).toInt64))), .second, .val (.int (0 : Int32))] [(.int (1 : Int32))]))
        refine OGo.by (fun _ k => XS.goto X9.here hx rfl (pc0 := 101) (pc' := 105) rfl (hb hby at_101) (by decide) (by decide) k) ?_
        show OGo p e below _ (T9.setTop (mkF m 105 #[.val (.long i0), .second, .val (.int i1), .val (.long (-62167219200000 : Int64)), .second, .val (.long (253402300799999 : Int64)), .second, .val (.long (((i1 >>> ((2 : Int32) &&& 31)).toInt8.toInt32).toInt64)), .second, .val (.int (i1 &&& (3 : Int32))), .val (.long ((253402300799999 : Int64) + (((i1 >>> ((2 : Int32) &&& 31)).toInt8.toInt32).toInt64))), .second, .val (.int (0 : Int32))] [(.int (1 : Int32))]))
        obtain ⟨fs, hr, hrun, hended, hW, hsame⟩ := X9.leave (v := some (.int (1 : Int32))) (fun h => by rw [Bd.returns] at h; cases h)
        refine OGo.ret (retN X9 hx (t := .boolean) Bd.returns (by simp) (hb hby at_105) hr) hrun hended ⟨_, _, rfl, ?_, ⟨_, rfl⟩, hW, hsame.mono (by decide) (by decide)⟩
        show Q_rm0 Z i0 i1 h0 n0 _ T9.heap _
        rw [e9]
        exact ⟨rfl, N9⟩
      · refine OGo.by (fun _ k => XS.ifNo X0.here hx rfl (hb hby at_72) rfl ((if0 _ _).trans (flt (mt (lw_lt _ _).mp hc72_8)).1) k) ?_
        show OGo p e below _ (s₁.setTop (mkF m 75 #[.val (.long i0), .second, .val (.int i1), .val (.long (-62167219200000 : Int64)), .second, .val (.long (253402300799999 : Int64)), .second, .val (.long (((i1 >>> ((2 : Int32) &&& 31)).toInt8.toInt32).toInt64)), .second, .val (.int (i1 &&& (3 : Int32))), .val (.long ((253402300799999 : Int64) + (((i1 >>> ((2 : Int32) &&& 31)).toInt8.toInt32).toInt64))), .second, .unset] []))
        refine OGo.by (fun _ k => XS.lload X0.here hx rfl (hb hby at_75) rfl k) ?_
        show OGo p e below _ (s₁.setTop (mkF m 77 #[.val (.long i0), .second, .val (.int i1), .val (.long (-62167219200000 : Int64)), .second, .val (.long (253402300799999 : Int64)), .second, .val (.long (((i1 >>> ((2 : Int32) &&& 31)).toInt8.toInt32).toInt64)), .second, .val (.int (i1 &&& (3 : Int32))), .val (.long ((253402300799999 : Int64) + (((i1 >>> ((2 : Int32) &&& 31)).toInt8.toInt32).toInt64))), .second, .unset] [(.long ((253402300799999 : Int64) + (((i1 >>> ((2 : Int32) &&& 31)).toInt8.toInt32).toInt64)))]))
        refine OGo.by (fun _ k => XS.lload X0.here hx rfl (hb hby at_77) rfl k) ?_
        show OGo p e below _ (s₁.setTop (mkF m 79 #[.val (.long i0), .second, .val (.int i1), .val (.long (-62167219200000 : Int64)), .second, .val (.long (253402300799999 : Int64)), .second, .val (.long (((i1 >>> ((2 : Int32) &&& 31)).toInt8.toInt32).toInt64)), .second, .val (.int (i1 &&& (3 : Int32))), .val (.long ((253402300799999 : Int64) + (((i1 >>> ((2 : Int32) &&& 31)).toInt8.toInt32).toInt64))), .second, .unset] [(.long (253402300799999 : Int64)), (.long ((253402300799999 : Int64) + (((i1 >>> ((2 : Int32) &&& 31)).toInt8.toInt32).toInt64)))]))
        refine OGo.by (fun _ k => XS.lcmp X0.here hx rfl (hb hby at_79) rfl k) ?_
        show OGo p e below _ (s₁.setTop (mkF m 80 #[.val (.long i0), .second, .val (.int i1), .val (.long (-62167219200000 : Int64)), .second, .val (.long (253402300799999 : Int64)), .second, .val (.long (((i1 >>> ((2 : Int32) &&& 31)).toInt8.toInt32).toInt64)), .second, .val (.int (i1 &&& (3 : Int32))), .val (.long ((253402300799999 : Int64) + (((i1 >>> ((2 : Int32) &&& 31)).toInt8.toInt32).toInt64))), .second, .unset] [(.int (lcmpW ((253402300799999 : Int64) + (((i1 >>> ((2 : Int32) &&& 31)).toInt8.toInt32).toInt64)) (253402300799999 : Int64)))]))
        by_cases hc80_10 : (253402300799999 : Int64) < ((253402300799999 : Int64) + (((i1 >>> ((2 : Int32) &&& 31)).toInt8.toInt32).toInt64))
        · refine OGo.by (fun _ k => XS.ifYes X0.here hx rfl (pc0 := 80) (pc' := 87) rfl (hb hby at_80) rfl ((if0 _ _).trans (tlt ((lw_gt _ _).mpr hc80_10)).2.2.1) (by decide) (by decide) k) ?_
          show OGo p e below _ (s₁.setTop (mkF m 87 #[.val (.long i0), .second, .val (.int i1), .val (.long (-62167219200000 : Int64)), .second, .val (.long (253402300799999 : Int64)), .second, .val (.long (((i1 >>> ((2 : Int32) &&& 31)).toInt8.toInt32).toInt64)), .second, .val (.int (i1 &&& (3 : Int32))), .val (.long ((253402300799999 : Int64) + (((i1 >>> ((2 : Int32) &&& 31)).toInt8.toInt32).toInt64))), .second, .unset] []))
          refine OGo.by (fun _ k => XS.iconst X0.here hx rfl (hb hby at_87) k) ?_
          show OGo p e below _ (s₁.setTop (mkF m 88 #[.val (.long i0), .second, .val (.int i1), .val (.long (-62167219200000 : Int64)), .second, .val (.long (253402300799999 : Int64)), .second, .val (.long (((i1 >>> ((2 : Int32) &&& 31)).toInt8.toInt32).toInt64)), .second, .val (.int (i1 &&& (3 : Int32))), .val (.long ((253402300799999 : Int64) + (((i1 >>> ((2 : Int32) &&& 31)).toInt8.toInt32).toInt64))), .second, .unset] [(.int (0 : Int32))]))
          refine OGo.by (fun _ k => XS.istore X0.here hx rfl (hb hby at_88) rfl (l' := #[.val (.long i0), .second, .val (.int i1), .val (.long (-62167219200000 : Int64)), .second, .val (.long (253402300799999 : Int64)), .second, .val (.long (((i1 >>> ((2 : Int32) &&& 31)).toInt8.toInt32).toInt64)), .second, .val (.int (i1 &&& (3 : Int32))), .val (.long ((253402300799999 : Int64) + (((i1 >>> ((2 : Int32) &&& 31)).toInt8.toInt32).toInt64))), .second, .val (.int (0 : Int32))]) rfl k) ?_
          show OGo p e below _ (s₁.setTop (mkF m 90 #[.val (.long i0), .second, .val (.int i1), .val (.long (-62167219200000 : Int64)), .second, .val (.long (253402300799999 : Int64)), .second, .val (.long (((i1 >>> ((2 : Int32) &&& 31)).toInt8.toInt32).toInt64)), .second, .val (.int (i1 &&& (3 : Int32))), .val (.long ((253402300799999 : Int64) + (((i1 >>> ((2 : Int32) &&& 31)).toInt8.toInt32).toInt64))), .second, .val (.int (0 : Int32))] []))
          refine OGo.by (fun _ k => XS.lload X0.here hx rfl (hb hby at_90) rfl k) ?_
          show OGo p e below _ (s₁.setTop (mkF m 92 #[.val (.long i0), .second, .val (.int i1), .val (.long (-62167219200000 : Int64)), .second, .val (.long (253402300799999 : Int64)), .second, .val (.long (((i1 >>> ((2 : Int32) &&& 31)).toInt8.toInt32).toInt64)), .second, .val (.int (i1 &&& (3 : Int32))), .val (.long ((253402300799999 : Int64) + (((i1 >>> ((2 : Int32) &&& 31)).toInt8.toInt32).toInt64))), .second, .val (.int (0 : Int32))] [(.long ((253402300799999 : Int64) + (((i1 >>> ((2 : Int32) &&& 31)).toInt8.toInt32).toInt64)))]))
          obtain ⟨_, _, ⟨T11, L11, k11, n11⟩, -, X11, ⟨Lc11, hQ11, l11, y11, z11⟩, st11⟩ := Jvm.LawKit.callS X0 hx (y := (⟨"com/example/sluice/sluice/Timestamps", "isInRange", "(J)Z"⟩ : MethodName)) hown (mvT hZ (hw _ (List.mem_of_getElem? (i := 2) rfl))) (mvT hZ (hw _ (List.mem_of_getElem? (i := 3) rfl))) (mvT hZ (hw _ (List.mem_of_getElem? (i := 4) rfl))) (mvT hZ (hw _ (List.mem_of_getElem? (i := 5) rfl))) (by decide) (backOf (W := 0) (rm1 l Z av0 hw [] ((253402300799999 : Int64) + (((i1 >>> ((2 : Int32) &&& 31)).toInt8.toInt32).toInt64)) h0 n0 Z0 S_MIN S_MAX) hZ (hw _ (List.mem_of_getElem? (i := 5) rfl)) (hw _ (List.mem_of_getElem? (i := 4) rfl)) (by decide) (by decide)) (g := (mkF m 92 #[.val (.long i0), .second, .val (.int i1), .val (.long (-62167219200000 : Int64)), .second, .val (.long (253402300799999 : Int64)), .second, .val (.long (((i1 >>> ((2 : Int32) &&& 31)).toInt8.toInt32).toInt64)), .second, .val (.int (i1 &&& (3 : Int32))), .val (.long ((253402300799999 : Int64) + (((i1 >>> ((2 : Int32) &&& 31)).toInt8.toInt32).toInt64))), .second, .val (.int (0 : Int32))] [(.long ((253402300799999 : Int64) + (((i1 >>> ((2 : Int32) &&& 31)).toInt8.toInt32).toInt64)))])) rfl (by rw [hml]; rfl) (argsL := [(.long ((253402300799999 : Int64) + (((i1 >>> ((2 : Int32) &&& 31)).toInt8.toInt32).toInt64)))]) (rest := []) (lenOf own_pd0 rfl) rfl (by show 2 * 0 + _ ≤ _; exact Nat.le_of_eq rfl) (hb hby at_92) (fun _ _ => ⟨rfl, e0, (by decide : 0 + 0 ≤ _), (by decide : 0 + 0 ≤ _)⟩)
          dsimp only [Pt.U, Pt.locs, Pt.cells, Pt.slots] at X11 l11 y11 z11 st11 hQ11
          subst l11 y11 z11
          obtain ⟨rfl, N11q, e11⟩ := hQ11
          have N11 := Fr.app N0 N11q
          refine OGo.by st11 ?_
          show OGo p e below _ (T11.setTop (mkF m 95 #[.val (.long i0), .second, .val (.int i1), .val (.long (-62167219200000 : Int64)), .second, .val (.long (253402300799999 : Int64)), .second, .val (.long (((i1 >>> ((2 : Int32) &&& 31)).toInt8.toInt32).toInt64)), .second, .val (.int (i1 &&& (3 : Int32))), .val (.long ((253402300799999 : Int64) + (((i1 >>> ((2 : Int32) &&& 31)).toInt8.toInt32).toInt64))), .second, .val (.int (0 : Int32))] [(.int (own_f1 ((253402300799999 : Int64) + (((i1 >>> ((2 : Int32) &&& 31)).toInt8.toInt32).toInt64))))]))
          refine OGo.by (fun _ k => XS.iload X11.here hx rfl (hb hby at_95) rfl k) ?_
          show OGo p e below _ (T11.setTop (mkF m 97 #[.val (.long i0), .second, .val (.int i1), .val (.long (-62167219200000 : Int64)), .second, .val (.long (253402300799999 : Int64)), .second, .val (.long (((i1 >>> ((2 : Int32) &&& 31)).toInt8.toInt32).toInt64)), .second, .val (.int (i1 &&& (3 : Int32))), .val (.long ((253402300799999 : Int64) + (((i1 >>> ((2 : Int32) &&& 31)).toInt8.toInt32).toInt64))), .second, .val (.int (0 : Int32))] [(.int (0 : Int32)), (.int (own_f1 ((253402300799999 : Int64) + (((i1 >>> ((2 : Int32) &&& 31)).toInt8.toInt32).toInt64))))]))
          refine OGo.by (fun _ k => XS.icmpNo X11.here hx rfl (hb hby at_97) rfl (teq (by unfold own_f1; rw [if_neg hc72_8, if_pos hc80_10] : (own_f1 ((253402300799999 : Int64) + (((i1 >>> ((2 : Int32) &&& 31)).toInt8.toInt32).toInt64))) = (0 : Int32))).2 k) ?_
          show OGo p e below _ (T11.setTop (mkF m 100 #[.val (.long i0), .second, .val (.int i1), .val (.long (-62167219200000 : Int64)), .second, .val (.long (253402300799999 : Int64)), .second, .val (.long (((i1 >>> ((2 : Int32) &&& 31)).toInt8.toInt32).toInt64)), .second, .val (.int (i1 &&& (3 : Int32))), .val (.long ((253402300799999 : Int64) + (((i1 >>> ((2 : Int32) &&& 31)).toInt8.toInt32).toInt64))), .second, .val (.int (0 : Int32))] []))
          refine OGo.by (fun _ k => XS.iconst X11.here hx rfl (hb hby at_100) k) ?_
          show OGo p e below _ (T11.setTop (mkF m 101 #[.val (.long i0), .second, .val (.int i1), .val (.long (-62167219200000 : Int64)), .second, .val (.long (253402300799999 : Int64)), .second, .val (.long (((i1 >>> ((2 : Int32) &&& 31)).toInt8.toInt32).toInt64)), .second, .val (.int (i1 &&& (3 : Int32))), .val (.long ((253402300799999 : Int64) + (((i1 >>> ((2 : Int32) &&& 31)).toInt8.toInt32).toInt64))), .second, .val (.int (0 : Int32))] [(.int (1 : Int32))]))
          refine OGo.by (fun _ k => XS.goto X11.here hx rfl (pc0 := 101) (pc' := 105) rfl (hb hby at_101) (by decide) (by decide) k) ?_
          show OGo p e below _ (T11.setTop (mkF m 105 #[.val (.long i0), .second, .val (.int i1), .val (.long (-62167219200000 : Int64)), .second, .val (.long (253402300799999 : Int64)), .second, .val (.long (((i1 >>> ((2 : Int32) &&& 31)).toInt8.toInt32).toInt64)), .second, .val (.int (i1 &&& (3 : Int32))), .val (.long ((253402300799999 : Int64) + (((i1 >>> ((2 : Int32) &&& 31)).toInt8.toInt32).toInt64))), .second, .val (.int (0 : Int32))] [(.int (1 : Int32))]))
          obtain ⟨fs, hr, hrun, hended, hW, hsame⟩ := X11.leave (v := some (.int (1 : Int32))) (fun h => by rw [Bd.returns] at h; cases h)
          refine OGo.ret (retN X11 hx (t := .boolean) Bd.returns (by simp) (hb hby at_105) hr) hrun hended ⟨_, _, rfl, ?_, ⟨_, rfl⟩, hW, hsame.mono (by decide) (by decide)⟩
          show Q_rm0 Z i0 i1 h0 n0 _ T11.heap _
          rw [e11]
          exact ⟨rfl, N11⟩
        · refine OGo.by (fun _ k => XS.ifNo X0.here hx rfl (hb hby at_80) rfl ((if0 _ _).trans (flt (mt (lw_gt _ _).mp hc80_10)).2.2.1) k) ?_
          show OGo p e below _ (s₁.setTop (mkF m 83 #[.val (.long i0), .second, .val (.int i1), .val (.long (-62167219200000 : Int64)), .second, .val (.long (253402300799999 : Int64)), .second, .val (.long (((i1 >>> ((2 : Int32) &&& 31)).toInt8.toInt32).toInt64)), .second, .val (.int (i1 &&& (3 : Int32))), .val (.long ((253402300799999 : Int64) + (((i1 >>> ((2 : Int32) &&& 31)).toInt8.toInt32).toInt64))), .second, .unset] []))
          refine OGo.by (fun _ k => XS.iconst X0.here hx rfl (hb hby at_83) k) ?_
          show OGo p e below _ (s₁.setTop (mkF m 84 #[.val (.long i0), .second, .val (.int i1), .val (.long (-62167219200000 : Int64)), .second, .val (.long (253402300799999 : Int64)), .second, .val (.long (((i1 >>> ((2 : Int32) &&& 31)).toInt8.toInt32).toInt64)), .second, .val (.int (i1 &&& (3 : Int32))), .val (.long ((253402300799999 : Int64) + (((i1 >>> ((2 : Int32) &&& 31)).toInt8.toInt32).toInt64))), .second, .unset] [(.int (1 : Int32))]))
          refine OGo.by (fun _ k => XS.goto X0.here hx rfl (pc0 := 84) (pc' := 88) rfl (hb hby at_84) (by decide) (by decide) k) ?_
          show OGo p e below _ (s₁.setTop (mkF m 88 #[.val (.long i0), .second, .val (.int i1), .val (.long (-62167219200000 : Int64)), .second, .val (.long (253402300799999 : Int64)), .second, .val (.long (((i1 >>> ((2 : Int32) &&& 31)).toInt8.toInt32).toInt64)), .second, .val (.int (i1 &&& (3 : Int32))), .val (.long ((253402300799999 : Int64) + (((i1 >>> ((2 : Int32) &&& 31)).toInt8.toInt32).toInt64))), .second, .unset] [(.int (1 : Int32))]))
          refine OGo.by (fun _ k => XS.istore X0.here hx rfl (hb hby at_88) rfl (l' := #[.val (.long i0), .second, .val (.int i1), .val (.long (-62167219200000 : Int64)), .second, .val (.long (253402300799999 : Int64)), .second, .val (.long (((i1 >>> ((2 : Int32) &&& 31)).toInt8.toInt32).toInt64)), .second, .val (.int (i1 &&& (3 : Int32))), .val (.long ((253402300799999 : Int64) + (((i1 >>> ((2 : Int32) &&& 31)).toInt8.toInt32).toInt64))), .second, .val (.int (1 : Int32))]) rfl k) ?_
          show OGo p e below _ (s₁.setTop (mkF m 90 #[.val (.long i0), .second, .val (.int i1), .val (.long (-62167219200000 : Int64)), .second, .val (.long (253402300799999 : Int64)), .second, .val (.long (((i1 >>> ((2 : Int32) &&& 31)).toInt8.toInt32).toInt64)), .second, .val (.int (i1 &&& (3 : Int32))), .val (.long ((253402300799999 : Int64) + (((i1 >>> ((2 : Int32) &&& 31)).toInt8.toInt32).toInt64))), .second, .val (.int (1 : Int32))] []))
          refine OGo.by (fun _ k => XS.lload X0.here hx rfl (hb hby at_90) rfl k) ?_
          show OGo p e below _ (s₁.setTop (mkF m 92 #[.val (.long i0), .second, .val (.int i1), .val (.long (-62167219200000 : Int64)), .second, .val (.long (253402300799999 : Int64)), .second, .val (.long (((i1 >>> ((2 : Int32) &&& 31)).toInt8.toInt32).toInt64)), .second, .val (.int (i1 &&& (3 : Int32))), .val (.long ((253402300799999 : Int64) + (((i1 >>> ((2 : Int32) &&& 31)).toInt8.toInt32).toInt64))), .second, .val (.int (1 : Int32))] [(.long ((253402300799999 : Int64) + (((i1 >>> ((2 : Int32) &&& 31)).toInt8.toInt32).toInt64)))]))
          obtain ⟨_, _, ⟨T12, L12, k12, n12⟩, -, X12, ⟨Lc12, hQ12, l12, y12, z12⟩, st12⟩ := Jvm.LawKit.callS X0 hx (y := (⟨"com/example/sluice/sluice/Timestamps", "isInRange", "(J)Z"⟩ : MethodName)) hown (mvT hZ (hw _ (List.mem_of_getElem? (i := 2) rfl))) (mvT hZ (hw _ (List.mem_of_getElem? (i := 3) rfl))) (mvT hZ (hw _ (List.mem_of_getElem? (i := 4) rfl))) (mvT hZ (hw _ (List.mem_of_getElem? (i := 5) rfl))) (by decide) (backOf (W := 0) (rm1 l Z av0 hw [] ((253402300799999 : Int64) + (((i1 >>> ((2 : Int32) &&& 31)).toInt8.toInt32).toInt64)) h0 n0 Z0 S_MIN S_MAX) hZ (hw _ (List.mem_of_getElem? (i := 5) rfl)) (hw _ (List.mem_of_getElem? (i := 4) rfl)) (by decide) (by decide)) (g := (mkF m 92 #[.val (.long i0), .second, .val (.int i1), .val (.long (-62167219200000 : Int64)), .second, .val (.long (253402300799999 : Int64)), .second, .val (.long (((i1 >>> ((2 : Int32) &&& 31)).toInt8.toInt32).toInt64)), .second, .val (.int (i1 &&& (3 : Int32))), .val (.long ((253402300799999 : Int64) + (((i1 >>> ((2 : Int32) &&& 31)).toInt8.toInt32).toInt64))), .second, .val (.int (1 : Int32))] [(.long ((253402300799999 : Int64) + (((i1 >>> ((2 : Int32) &&& 31)).toInt8.toInt32).toInt64)))])) rfl (by rw [hml]; rfl) (argsL := [(.long ((253402300799999 : Int64) + (((i1 >>> ((2 : Int32) &&& 31)).toInt8.toInt32).toInt64)))]) (rest := []) (lenOf own_pd0 rfl) rfl (by show 2 * 0 + _ ≤ _; exact Nat.le_of_eq rfl) (hb hby at_92) (fun _ _ => ⟨rfl, e0, (by decide : 0 + 0 ≤ _), (by decide : 0 + 0 ≤ _)⟩)
          dsimp only [Pt.U, Pt.locs, Pt.cells, Pt.slots] at X12 l12 y12 z12 st12 hQ12
          subst l12 y12 z12
          obtain ⟨rfl, N12q, e12⟩ := hQ12
          have N12 := Fr.app N0 N12q
          refine OGo.by st12 ?_
          show OGo p e below _ (T12.setTop (mkF m 95 #[.val (.long i0), .second, .val (.int i1), .val (.long (-62167219200000 : Int64)), .second, .val (.long (253402300799999 : Int64)), .second, .val (.long (((i1 >>> ((2 : Int32) &&& 31)).toInt8.toInt32).toInt64)), .second, .val (.int (i1 &&& (3 : Int32))), .val (.long ((253402300799999 : Int64) + (((i1 >>> ((2 : Int32) &&& 31)).toInt8.toInt32).toInt64))), .second, .val (.int (1 : Int32))] [(.int (own_f1 ((253402300799999 : Int64) + (((i1 >>> ((2 : Int32) &&& 31)).toInt8.toInt32).toInt64))))]))
          refine OGo.by (fun _ k => XS.iload X12.here hx rfl (hb hby at_95) rfl k) ?_
          show OGo p e below _ (T12.setTop (mkF m 97 #[.val (.long i0), .second, .val (.int i1), .val (.long (-62167219200000 : Int64)), .second, .val (.long (253402300799999 : Int64)), .second, .val (.long (((i1 >>> ((2 : Int32) &&& 31)).toInt8.toInt32).toInt64)), .second, .val (.int (i1 &&& (3 : Int32))), .val (.long ((253402300799999 : Int64) + (((i1 >>> ((2 : Int32) &&& 31)).toInt8.toInt32).toInt64))), .second, .val (.int (1 : Int32))] [(.int (1 : Int32)), (.int (own_f1 ((253402300799999 : Int64) + (((i1 >>> ((2 : Int32) &&& 31)).toInt8.toInt32).toInt64))))]))
          refine OGo.by (fun _ k => XS.icmpNo X12.here hx rfl (hb hby at_97) rfl (teq (by unfold own_f1; rw [if_neg hc72_8, if_neg hc80_10] : (own_f1 ((253402300799999 : Int64) + (((i1 >>> ((2 : Int32) &&& 31)).toInt8.toInt32).toInt64))) = (1 : Int32))).2 k) ?_
          show OGo p e below _ (T12.setTop (mkF m 100 #[.val (.long i0), .second, .val (.int i1), .val (.long (-62167219200000 : Int64)), .second, .val (.long (253402300799999 : Int64)), .second, .val (.long (((i1 >>> ((2 : Int32) &&& 31)).toInt8.toInt32).toInt64)), .second, .val (.int (i1 &&& (3 : Int32))), .val (.long ((253402300799999 : Int64) + (((i1 >>> ((2 : Int32) &&& 31)).toInt8.toInt32).toInt64))), .second, .val (.int (1 : Int32))] []))
          refine OGo.by (fun _ k => XS.iconst X12.here hx rfl (hb hby at_100) k) ?_
          show OGo p e below _ (T12.setTop (mkF m 101 #[.val (.long i0), .second, .val (.int i1), .val (.long (-62167219200000 : Int64)), .second, .val (.long (253402300799999 : Int64)), .second, .val (.long (((i1 >>> ((2 : Int32) &&& 31)).toInt8.toInt32).toInt64)), .second, .val (.int (i1 &&& (3 : Int32))), .val (.long ((253402300799999 : Int64) + (((i1 >>> ((2 : Int32) &&& 31)).toInt8.toInt32).toInt64))), .second, .val (.int (1 : Int32))] [(.int (1 : Int32))]))
          refine OGo.by (fun _ k => XS.goto X12.here hx rfl (pc0 := 101) (pc' := 105) rfl (hb hby at_101) (by decide) (by decide) k) ?_
          show OGo p e below _ (T12.setTop (mkF m 105 #[.val (.long i0), .second, .val (.int i1), .val (.long (-62167219200000 : Int64)), .second, .val (.long (253402300799999 : Int64)), .second, .val (.long (((i1 >>> ((2 : Int32) &&& 31)).toInt8.toInt32).toInt64)), .second, .val (.int (i1 &&& (3 : Int32))), .val (.long ((253402300799999 : Int64) + (((i1 >>> ((2 : Int32) &&& 31)).toInt8.toInt32).toInt64))), .second, .val (.int (1 : Int32))] [(.int (1 : Int32))]))
          obtain ⟨fs, hr, hrun, hended, hW, hsame⟩ := X12.leave (v := some (.int (1 : Int32))) (fun h => by rw [Bd.returns] at h; cases h)
          refine OGo.ret (retN X12 hx (t := .boolean) Bd.returns (by simp) (hb hby at_105) hr) hrun hended ⟨_, _, rfl, ?_, ⟨_, rfl⟩, hW, hsame.mono (by decide) (by decide)⟩
          show Q_rm0 Z i0 i1 h0 n0 _ T12.heap _
          rw [e12]
          exact ⟨rfl, N12⟩
    · refine OGo.by (fun _ k => XS.icmpYes X0.here hx rfl (pc0 := 39) (pc' := 52) rfl (hb hby at_39) rfl (feq hc39_7).2 (by decide) (by decide) k) ?_
      show OGo p e below _ (s₁.setTop (mkF m 52 #[.val (.long i0), .second, .val (.int i1), .val (.long (-62167219200000 : Int64)), .second, .val (.long (253402300799999 : Int64)), .second, .val (.long (((i1 >>> ((2 : Int32) &&& 31)).toInt8.toInt32).toInt64)), .second, .val (.int (i1 &&& (3 : Int32))), .unset, .unset, .unset] []))
      refine OGo.by (fun _ k => XS.iload X0.here hx rfl (hb hby at_52) rfl k) ?_
      show OGo p e below _ (s₁.setTop (mkF m 54 #[.val (.long i0), .second, .val (.int i1), .val (.long (-62167219200000 : Int64)), .second, .val (.long (253402300799999 : Int64)), .second, .val (.long (((i1 >>> ((2 : Int32) &&& 31)).toInt8.toInt32).toInt64)), .second, .val (.int (i1 &&& (3 : Int32))), .unset, .unset, .unset] [(.int (i1 &&& (3 : Int32)))]))
      refine OGo.by (fun _ k => XS.iconst X0.here hx rfl (hb hby at_54) k) ?_
      show OGo p e below _ (s₁.setTop (mkF m 55 #[.val (.long i0), .second, .val (.int i1), .val (.long (-62167219200000 : Int64)), .second, .val (.long (253402300799999 : Int64)), .second, .val (.long (((i1 >>> ((2 : Int32) &&& 31)).toInt8.toInt32).toInt64)), .second, .val (.int (i1 &&& (3 : Int32))), .unset, .unset, .unset] [(.int (3 : Int32)), (.int (i1 &&& (3 : Int32)))]))
      by_cases hc55_13 : (i1 &&& (3 : Int32)) = (3 : Int32)
      · refine OGo.by (fun _ k => XS.icmpNo X0.here hx rfl (hb hby at_55) rfl (teq hc55_13).2 k) ?_
        show OGo p e below _ (s₁.setTop (mkF m 58 #[.val (.long i0), .second, .val (.int i1), .val (.long (-62167219200000 : Int64)), .second, .val (.long (253402300799999 : Int64)), .second, .val (.long (((i1 >>> ((2 : Int32) &&& 31)).toInt8.toInt32).toInt64)), .second, .val (.int (i1 &&& (3 : Int32))), .unset, .unset, .unset] []))
        refine OGo.by (fun _ k => XS.lload X0.here hx rfl (hb hby at_58) rfl k) ?_
        show OGo p e below _ (s₁.setTop (mkF m 60 #[.val (.long i0), .second, .val (.int i1), .val (.long (-62167219200000 : Int64)), .second, .val (.long (253402300799999 : Int64)), .second, .val (.long (((i1 >>> ((2 : Int32) &&& 31)).toInt8.toInt32).toInt64)), .second, .val (.int (i1 &&& (3 : Int32))), .unset, .unset, .unset] [(.long (((i1 >>> ((2 : Int32) &&& 31)).toInt8.toInt32).toInt64))]))
        refine OGo.by (fun _ k => XS.lstore X0.here hx rfl (hb hby at_60) rfl (l' := #[.val (.long i0), .second, .val (.int i1), .val (.long (-62167219200000 : Int64)), .second, .val (.long (253402300799999 : Int64)), .second, .val (.long (((i1 >>> ((2 : Int32) &&& 31)).toInt8.toInt32).toInt64)), .second, .val (.int (i1 &&& (3 : Int32))), .val (.long (((i1 >>> ((2 : Int32) &&& 31)).toInt8.toInt32).toInt64)), .second, .unset]) rfl k) ?_
        show OGo p e below _ (s₁.setTop (mkF m 62 #[.val (.long i0), .second, .val (.int i1), .val (.long (-62167219200000 : Int64)), .second, .val (.long (253402300799999 : Int64)), .second, .val (.long (((i1 >>> ((2 : Int32) &&& 31)).toInt8.toInt32).toInt64)), .second, .val (.int (i1 &&& (3 : Int32))), .val (.long (((i1 >>> ((2 : Int32) &&& 31)).toInt8.toInt32).toInt64)), .second, .unset] []))
        refine OGo.by (fun _ k => XS.goto X0.here hx rfl (pc0 := 62) (pc' := 68) rfl (hb hby at_62) (by decide) (by decide) k) ?_
        show OGo p e below _ (s₁.setTop (mkF m 68 #[.val (.long i0), .second, .val (.int i1), .val (.long (-62167219200000 : Int64)), .second, .val (.long (253402300799999 : Int64)), .second, .val (.long (((i1 >>> ((2 : Int32) &&& 31)).toInt8.toInt32).toInt64)), .second, .val (.int (i1 &&& (3 : Int32))), .val (.long (((i1 >>> ((2 : Int32) &&& 31)).toInt8.toInt32).toInt64)), .second, .unset] []))
        refine OGo.by (fun _ k => XS.lload X0.here hx rfl (hb hby at_68) rfl k) ?_
        show OGo p e below _ (s₁.setTop (mkF m 70 #[.val (.long i0), .second, .val (.int i1), .val (.long (-62167219200000 : Int64)), .second, .val (.long (253402300799999 : Int64)), .second, .val (.long (((i1 >>> ((2 : Int32) &&& 31)).toInt8.toInt32).toInt64)), .second, .val (.int (i1 &&& (3 : Int32))), .val (.long (((i1 >>> ((2 : Int32) &&& 31)).toInt8.toInt32).toInt64)), .second, .unset] [(.long (((i1 >>> ((2 : Int32) &&& 31)).toInt8.toInt32).toInt64))]))
        refine OGo.by (fun _ k => XS.lloadN X0.here hx rfl (hb hby at_70) rfl k) ?_
        show OGo p e below _ (s₁.setTop (mkF m 71 #[.val (.long i0), .second, .val (.int i1), .val (.long (-62167219200000 : Int64)), .second, .val (.long (253402300799999 : Int64)), .second, .val (.long (((i1 >>> ((2 : Int32) &&& 31)).toInt8.toInt32).toInt64)), .second, .val (.int (i1 &&& (3 : Int32))), .val (.long (((i1 >>> ((2 : Int32) &&& 31)).toInt8.toInt32).toInt64)), .second, .unset] [(.long (-62167219200000 : Int64)), (.long (((i1 >>> ((2 : Int32) &&& 31)).toInt8.toInt32).toInt64))]))
        refine OGo.by (fun _ k => XS.lcmp X0.here hx rfl (hb hby at_71) rfl k) ?_
        show OGo p e below _ (s₁.setTop (mkF m 72 #[.val (.long i0), .second, .val (.int i1), .val (.long (-62167219200000 : Int64)), .second, .val (.long (253402300799999 : Int64)), .second, .val (.long (((i1 >>> ((2 : Int32) &&& 31)).toInt8.toInt32).toInt64)), .second, .val (.int (i1 &&& (3 : Int32))), .val (.long (((i1 >>> ((2 : Int32) &&& 31)).toInt8.toInt32).toInt64)), .second, .unset] [(.int (lcmpW (((i1 >>> ((2 : Int32) &&& 31)).toInt8.toInt32).toInt64) (-62167219200000 : Int64)))]))
        by_cases hc72_14 : (((i1 >>> ((2 : Int32) &&& 31)).toInt8.toInt32).toInt64) < (-62167219200000 : Int64)
        · refine OGo.by (fun _ k => XS.ifYes X0.here hx rfl (pc0 := 72) (pc' := 87) rfl (hb hby at_72) rfl ((if0 _ _).trans (tlt ((lw_lt _ _).mpr hc72_14)).1) (by decide) (by decide) k) ?_
          show OGo p e below _ (s₁.setTop (mkF m 87 #[.val (.long i0), .second, .val (.int i1), .val (.long (-62167219200000 : Int64)), .second, .val (.long (253402300799999 : Int64)), .second, .val (.long (((i1 >>> ((2 : Int32) &&& 31)).toInt8.toInt32).toInt64)), .second, .val (.int (i1 &&& (3 : Int32))), .val (.long (((i1 >>> ((2 : Int32) &&& 31)).toInt8.toInt32).toInt64)), .second, .unset] []))
          refine OGo.by (fun _ k => XS.iconst X0.here hx rfl (hb hby at_87) k) ?_
          show OGo p e below _ (s₁.setTop (mkF m 88 #[.val (.long i0), .second, .val (.int i1), .val (.long (-62167219200000 : Int64)), .second, .val (.long (253402300799999 : Int64)), .second, .val (.long (((i1 >>> ((2 : Int32) &&& 31)).toInt8.toInt32).toInt64)), .second, .val (.int (i1 &&& (3 : Int32))), .val (.long (((i1 >>> ((2 : Int32) &&& 31)).toInt8.toInt32).toInt64)), .second, .unset] [(.int (0 : Int32))]))
          refine OGo.by (fun _ k => XS.istore X0.here hx rfl (hb hby at_88) rfl (l' := #[.val (.long i0), .second, .val (.int i1), .val (.long (-62167219200000 : Int64)), .second, .val (.long (253402300799999 : Int64)), .second, .val (.long (((i1 >>> ((2 : Int32) &&& 31)).toInt8.toInt32).toInt64)), .second, .val (.int (i1 &&& (3 : Int32))), .val (.long (((i1 >>> ((2 : Int32) &&& 31)).toInt8.toInt32).toInt64)), .second, .val (.int (0 : Int32))]) rfl k) ?_
          show OGo p e below _ (s₁.setTop (mkF m 90 #[.val (.long i0), .second, .val (.int i1), .val (.long (-62167219200000 : Int64)), .second, .val (.long (253402300799999 : Int64)), .second, .val (.long (((i1 >>> ((2 : Int32) &&& 31)).toInt8.toInt32).toInt64)), .second, .val (.int (i1 &&& (3 : Int32))), .val (.long (((i1 >>> ((2 : Int32) &&& 31)).toInt8.toInt32).toInt64)), .second, .val (.int (0 : Int32))] []))
          refine OGo.by (fun _ k => XS.lload X0.here hx rfl (hb hby at_90) rfl k) ?_
          show OGo p e below _ (s₁.setTop (mkF m 92 #[.val (.long i0), .second, .val (.int i1), .val (.long (-62167219200000 : Int64)), .second, .val (.long (253402300799999 : Int64)), .second, .val (.long (((i1 >>> ((2 : Int32) &&& 31)).toInt8.toInt32).toInt64)), .second, .val (.int (i1 &&& (3 : Int32))), .val (.long (((i1 >>> ((2 : Int32) &&& 31)).toInt8.toInt32).toInt64)), .second, .val (.int (0 : Int32))] [(.long (((i1 >>> ((2 : Int32) &&& 31)).toInt8.toInt32).toInt64))]))
          obtain ⟨_, _, ⟨T15, L15, k15, n15⟩, -, X15, ⟨Lc15, hQ15, l15, y15, z15⟩, st15⟩ := Jvm.LawKit.callS X0 hx (y := (⟨"com/example/sluice/sluice/Timestamps", "isInRange", "(J)Z"⟩ : MethodName)) hown (mvT hZ (hw _ (List.mem_of_getElem? (i := 2) rfl))) (mvT hZ (hw _ (List.mem_of_getElem? (i := 3) rfl))) (mvT hZ (hw _ (List.mem_of_getElem? (i := 4) rfl))) (mvT hZ (hw _ (List.mem_of_getElem? (i := 5) rfl))) (by decide) (backOf (W := 0) (rm1 l Z av0 hw [] (((i1 >>> ((2 : Int32) &&& 31)).toInt8.toInt32).toInt64) h0 n0 Z0 S_MIN S_MAX) hZ (hw _ (List.mem_of_getElem? (i := 5) rfl)) (hw _ (List.mem_of_getElem? (i := 4) rfl)) (by decide) (by decide)) (g := (mkF m 92 #[.val (.long i0), .second, .val (.int i1), .val (.long (-62167219200000 : Int64)), .second, .val (.long (253402300799999 : Int64)), .second, .val (.long (((i1 >>> ((2 : Int32) &&& 31)).toInt8.toInt32).toInt64)), .second, .val (.int (i1 &&& (3 : Int32))), .val (.long (((i1 >>> ((2 : Int32) &&& 31)).toInt8.toInt32).toInt64)), .second, .val (.int (0 : Int32))] [(.long (((i1 >>> ((2 : Int32) &&& 31)).toInt8.toInt32).toInt64))])) rfl (by rw [hml]; rfl) (argsL := [(.long (((i1 >>> ((2 : Int32) &&& 31)).toInt8.toInt32).toInt64))]) (rest := []) (lenOf own_pd0 rfl) rfl (by show 2 * 0 + _ ≤ _; exact Nat.le_of_eq rfl) (hb hby at_92) (fun _ _ => ⟨rfl, e0, (by decide : 0 + 0 ≤ _), (by decide : 0 + 0 ≤ _)⟩)
          dsimp only [Pt.U, Pt.locs, Pt.cells, Pt.slots] at X15 l15 y15 z15 st15 hQ15
          subst l15 y15 z15
          obtain ⟨rfl, N15q, e15⟩ := hQ15
          have N15 := Fr.app N0 N15q
          refine OGo.by st15 ?_
          show OGo p e below _ (T15.setTop (mkF m 95 #[.val (.long i0), .second, .val (.int i1), .val (.long (-62167219200000 : Int64)), .second, .val (.long (253402300799999 : Int64)), .second, .val (.long (((i1 >>> ((2 : Int32) &&& 31)).toInt8.toInt32).toInt64)), .second, .val (.int (i1 &&& (3 : Int32))), .val (.long (((i1 >>> ((2 : Int32) &&& 31)).toInt8.toInt32).toInt64)), .second, .val (.int (0 : Int32))] [(.int (own_f1 (((i1 >>> ((2 : Int32) &&& 31)).toInt8.toInt32).toInt64)))]))
          refine OGo.by (fun _ k => XS.iload X15.here hx rfl (hb hby at_95) rfl k) ?_
          show OGo p e below _ (T15.setTop (mkF m 97 #[.val (.long i0), .second, .val (.int i1), .val (.long (-62167219200000 : Int64)), .second, .val (.long (253402300799999 : Int64)), .second, .val (.long (((i1 >>> ((2 : Int32) &&& 31)).toInt8.toInt32).toInt64)), .second, .val (.int (i1 &&& (3 : Int32))), .val (.long (((i1 >>> ((2 : Int32) &&& 31)).toInt8.toInt32).toInt64)), .second, .val (.int (0 : Int32))] [(.int (0 : Int32)), (.int (own_f1 (((i1 >>> ((2 : Int32) &&& 31)).toInt8.toInt32).toInt64)))]))
          refine OGo.by (fun _ k => XS.icmpNo X15.here hx rfl (hb hby at_97) rfl (teq (by unfold own_f1; rw [if_pos hc72_14] : (own_f1 (((i1 >>> ((2 : Int32) &&& 31)).toInt8.toInt32).toInt64)) = (0 : Int32))).2 k) ?_
          show OGo p e below _ (T15.setTop (mkF m 100 #[.val (.long i0), .second, .val (.int i1), .val (.long (-62167219200000 : Int64)), .second, .val (.long (253402300799999 : Int64)), .second, .val (.long (((i1 >>> ((2 : Int32) &&& 31)).toInt8.toInt32).toInt64)), .second, .val (.int (i1 &&& (3 : Int32))), .val (.long (((i1 >>> ((2 : Int32) &&& 31)).toInt8.toInt32).toInt64)), .second, .val (.int (0 : Int32))] []))
          refine OGo.by (fun _ k => XS.iconst X15.here hx rfl (hb hby at_100) k) ?_
          show OGo p e below _ (T15.setTop (mkF m 101 #[.val (.long i0), .second, .val (.int i1), .val (.long (-62167219200000 : Int64)), .second, .val (.long (253402300799999 : Int64)), .second, .val (.long (((i1 >>> ((2 : Int32) &&& 31)).toInt8.toInt32).toInt64)), .second, .val (.int (i1 &&& (3 : Int32))), .val (.long (((i1 >>> ((2 : Int32) &&& 31)).toInt8.toInt32).toInt64)), .second, .val (.int (0 : Int32))] [(.int (1 : Int32))]))
          refine OGo.by (fun _ k => XS.goto X15.here hx rfl (pc0 := 101) (pc' := 105) rfl (hb hby at_101) (by decide) (by decide) k) ?_
          show OGo p e below _ (T15.setTop (mkF m 105 #[.val (.long i0), .second, .val (.int i1), .val (.long (-62167219200000 : Int64)), .second, .val (.long (253402300799999 : Int64)), .second, .val (.long (((i1 >>> ((2 : Int32) &&& 31)).toInt8.toInt32).toInt64)), .second, .val (.int (i1 &&& (3 : Int32))), .val (.long (((i1 >>> ((2 : Int32) &&& 31)).toInt8.toInt32).toInt64)), .second, .val (.int (0 : Int32))] [(.int (1 : Int32))]))
          obtain ⟨fs, hr, hrun, hended, hW, hsame⟩ := X15.leave (v := some (.int (1 : Int32))) (fun h => by rw [Bd.returns] at h; cases h)
          refine OGo.ret (retN X15 hx (t := .boolean) Bd.returns (by simp) (hb hby at_105) hr) hrun hended ⟨_, _, rfl, ?_, ⟨_, rfl⟩, hW, hsame.mono (by decide) (by decide)⟩
          show Q_rm0 Z i0 i1 h0 n0 _ T15.heap _
          rw [e15]
          exact ⟨rfl, N15⟩
        · refine OGo.by (fun _ k => XS.ifNo X0.here hx rfl (hb hby at_72) rfl ((if0 _ _).trans (flt (mt (lw_lt _ _).mp hc72_14)).1) k) ?_
          show OGo p e below _ (s₁.setTop (mkF m 75 #[.val (.long i0), .second, .val (.int i1), .val (.long (-62167219200000 : Int64)), .second, .val (.long (253402300799999 : Int64)), .second, .val (.long (((i1 >>> ((2 : Int32) &&& 31)).toInt8.toInt32).toInt64)), .second, .val (.int (i1 &&& (3 : Int32))), .val (.long (((i1 >>> ((2 : Int32) &&& 31)).toInt8.toInt32).toInt64)), .second, .unset] []))
          refine OGo.by (fun _ k => XS.lload X0.here hx rfl (hb hby at_75) rfl k) ?_
          show OGo p e below _ (s₁.setTop (mkF m 77 #[.val (.long i0), .second, .val (.int i1), .val (.long (-62167219200000 : Int64)), .second, .val (.long (253402300799999 : Int64)), .second, .val (.long (((i1 >>> ((2 : Int32) &&& 31)).toInt8.toInt32).toInt64)), .second, .val (.int (i1 &&& (3 : Int32))), .val (.long (((i1 >>> ((2 : Int32) &&& 31)).toInt8.toInt32).toInt64)), .second, .unset] [(.long (((i1 >>> ((2 : Int32) &&& 31)).toInt8.toInt32).toInt64))]))
          refine OGo.by (fun _ k => XS.lload X0.here hx rfl (hb hby at_77) rfl k) ?_
          show OGo p e below _ (s₁.setTop (mkF m 79 #[.val (.long i0), .second, .val (.int i1), .val (.long (-62167219200000 : Int64)), .second, .val (.long (253402300799999 : Int64)), .second, .val (.long (((i1 >>> ((2 : Int32) &&& 31)).toInt8.toInt32).toInt64)), .second, .val (.int (i1 &&& (3 : Int32))), .val (.long (((i1 >>> ((2 : Int32) &&& 31)).toInt8.toInt32).toInt64)), .second, .unset] [(.long (253402300799999 : Int64)), (.long (((i1 >>> ((2 : Int32) &&& 31)).toInt8.toInt32).toInt64))]))
          refine OGo.by (fun _ k => XS.lcmp X0.here hx rfl (hb hby at_79) rfl k) ?_
          show OGo p e below _ (s₁.setTop (mkF m 80 #[.val (.long i0), .second, .val (.int i1), .val (.long (-62167219200000 : Int64)), .second, .val (.long (253402300799999 : Int64)), .second, .val (.long (((i1 >>> ((2 : Int32) &&& 31)).toInt8.toInt32).toInt64)), .second, .val (.int (i1 &&& (3 : Int32))), .val (.long (((i1 >>> ((2 : Int32) &&& 31)).toInt8.toInt32).toInt64)), .second, .unset] [(.int (lcmpW (((i1 >>> ((2 : Int32) &&& 31)).toInt8.toInt32).toInt64) (253402300799999 : Int64)))]))
          by_cases hc80_16 : (253402300799999 : Int64) < (((i1 >>> ((2 : Int32) &&& 31)).toInt8.toInt32).toInt64)
          · refine OGo.by (fun _ k => XS.ifYes X0.here hx rfl (pc0 := 80) (pc' := 87) rfl (hb hby at_80) rfl ((if0 _ _).trans (tlt ((lw_gt _ _).mpr hc80_16)).2.2.1) (by decide) (by decide) k) ?_
            show OGo p e below _ (s₁.setTop (mkF m 87 #[.val (.long i0), .second, .val (.int i1), .val (.long (-62167219200000 : Int64)), .second, .val (.long (253402300799999 : Int64)), .second, .val (.long (((i1 >>> ((2 : Int32) &&& 31)).toInt8.toInt32).toInt64)), .second, .val (.int (i1 &&& (3 : Int32))), .val (.long (((i1 >>> ((2 : Int32) &&& 31)).toInt8.toInt32).toInt64)), .second, .unset] []))
            refine OGo.by (fun _ k => XS.iconst X0.here hx rfl (hb hby at_87) k) ?_
            show OGo p e below _ (s₁.setTop (mkF m 88 #[.val (.long i0), .second, .val (.int i1), .val (.long (-62167219200000 : Int64)), .second, .val (.long (253402300799999 : Int64)), .second, .val (.long (((i1 >>> ((2 : Int32) &&& 31)).toInt8.toInt32).toInt64)), .second, .val (.int (i1 &&& (3 : Int32))), .val (.long (((i1 >>> ((2 : Int32) &&& 31)).toInt8.toInt32).toInt64)), .second, .unset] [(.int (0 : Int32))]))
            refine OGo.by (fun _ k => XS.istore X0.here hx rfl (hb hby at_88) rfl (l' := #[.val (.long i0), .second, .val (.int i1), .val (.long (-62167219200000 : Int64)), .second, .val (.long (253402300799999 : Int64)), .second, .val (.long (((i1 >>> ((2 : Int32) &&& 31)).toInt8.toInt32).toInt64)), .second, .val (.int (i1 &&& (3 : Int32))), .val (.long (((i1 >>> ((2 : Int32) &&& 31)).toInt8.toInt32).toInt64)), .second, .val (.int (0 : Int32))]) rfl k) ?_
            show OGo p e below _ (s₁.setTop (mkF m 90 #[.val (.long i0), .second, .val (.int i1), .val (.long (-62167219200000 : Int64)), .second, .val (.long (253402300799999 : Int64)), .second, .val (.long (((i1 >>> ((2 : Int32) &&& 31)).toInt8.toInt32).toInt64)), .second, .val (.int (i1 &&& (3 : Int32))), .val (.long (((i1 >>> ((2 : Int32) &&& 31)).toInt8.toInt32).toInt64)), .second, .val (.int (0 : Int32))] []))
            refine OGo.by (fun _ k => XS.lload X0.here hx rfl (hb hby at_90) rfl k) ?_
            show OGo p e below _ (s₁.setTop (mkF m 92 #[.val (.long i0), .second, .val (.int i1), .val (.long (-62167219200000 : Int64)), .second, .val (.long (253402300799999 : Int64)), .second, .val (.long (((i1 >>> ((2 : Int32) &&& 31)).toInt8.toInt32).toInt64)), .second, .val (.int (i1 &&& (3 : Int32))), .val (.long (((i1 >>> ((2 : Int32) &&& 31)).toInt8.toInt32).toInt64)), .second, .val (.int (0 : Int32))] [(.long (((i1 >>> ((2 : Int32) &&& 31)).toInt8.toInt32).toInt64))]))
            obtain ⟨_, _, ⟨T17, L17, k17, n17⟩, -, X17, ⟨Lc17, hQ17, l17, y17, z17⟩, st17⟩ := Jvm.LawKit.callS X0 hx (y := (⟨"com/example/sluice/sluice/Timestamps", "isInRange", "(J)Z"⟩ : MethodName)) hown (mvT hZ (hw _ (List.mem_of_getElem? (i := 2) rfl))) (mvT hZ (hw _ (List.mem_of_getElem? (i := 3) rfl))) (mvT hZ (hw _ (List.mem_of_getElem? (i := 4) rfl))) (mvT hZ (hw _ (List.mem_of_getElem? (i := 5) rfl))) (by decide) (backOf (W := 0) (rm1 l Z av0 hw [] (((i1 >>> ((2 : Int32) &&& 31)).toInt8.toInt32).toInt64) h0 n0 Z0 S_MIN S_MAX) hZ (hw _ (List.mem_of_getElem? (i := 5) rfl)) (hw _ (List.mem_of_getElem? (i := 4) rfl)) (by decide) (by decide)) (g := (mkF m 92 #[.val (.long i0), .second, .val (.int i1), .val (.long (-62167219200000 : Int64)), .second, .val (.long (253402300799999 : Int64)), .second, .val (.long (((i1 >>> ((2 : Int32) &&& 31)).toInt8.toInt32).toInt64)), .second, .val (.int (i1 &&& (3 : Int32))), .val (.long (((i1 >>> ((2 : Int32) &&& 31)).toInt8.toInt32).toInt64)), .second, .val (.int (0 : Int32))] [(.long (((i1 >>> ((2 : Int32) &&& 31)).toInt8.toInt32).toInt64))])) rfl (by rw [hml]; rfl) (argsL := [(.long (((i1 >>> ((2 : Int32) &&& 31)).toInt8.toInt32).toInt64))]) (rest := []) (lenOf own_pd0 rfl) rfl (by show 2 * 0 + _ ≤ _; exact Nat.le_of_eq rfl) (hb hby at_92) (fun _ _ => ⟨rfl, e0, (by decide : 0 + 0 ≤ _), (by decide : 0 + 0 ≤ _)⟩)
            dsimp only [Pt.U, Pt.locs, Pt.cells, Pt.slots] at X17 l17 y17 z17 st17 hQ17
            subst l17 y17 z17
            obtain ⟨rfl, N17q, e17⟩ := hQ17
            have N17 := Fr.app N0 N17q
            refine OGo.by st17 ?_
            show OGo p e below _ (T17.setTop (mkF m 95 #[.val (.long i0), .second, .val (.int i1), .val (.long (-62167219200000 : Int64)), .second, .val (.long (253402300799999 : Int64)), .second, .val (.long (((i1 >>> ((2 : Int32) &&& 31)).toInt8.toInt32).toInt64)), .second, .val (.int (i1 &&& (3 : Int32))), .val (.long (((i1 >>> ((2 : Int32) &&& 31)).toInt8.toInt32).toInt64)), .second, .val (.int (0 : Int32))] [(.int (own_f1 (((i1 >>> ((2 : Int32) &&& 31)).toInt8.toInt32).toInt64)))]))
            refine OGo.by (fun _ k => XS.iload X17.here hx rfl (hb hby at_95) rfl k) ?_
            show OGo p e below _ (T17.setTop (mkF m 97 #[.val (.long i0), .second, .val (.int i1), .val (.long (-62167219200000 : Int64)), .second, .val (.long (253402300799999 : Int64)), .second, .val (.long (((i1 >>> ((2 : Int32) &&& 31)).toInt8.toInt32).toInt64)), .second, .val (.int (i1 &&& (3 : Int32))), .val (.long (((i1 >>> ((2 : Int32) &&& 31)).toInt8.toInt32).toInt64)), .second, .val (.int (0 : Int32))] [(.int (0 : Int32)), (.int (own_f1 (((i1 >>> ((2 : Int32) &&& 31)).toInt8.toInt32).toInt64)))]))
            refine OGo.by (fun _ k => XS.icmpNo X17.here hx rfl (hb hby at_97) rfl (teq (by unfold own_f1; rw [if_neg hc72_14, if_pos hc80_16] : (own_f1 (((i1 >>> ((2 : Int32) &&& 31)).toInt8.toInt32).toInt64)) = (0 : Int32))).2 k) ?_
            show OGo p e below _ (T17.setTop (mkF m 100 #[.val (.long i0), .second, .val (.int i1), .val (.long (-62167219200000 : Int64)), .second, .val (.long (253402300799999 : Int64)), .second, .val (.long (((i1 >>> ((2 : Int32) &&& 31)).toInt8.toInt32).toInt64)), .second, .val (.int (i1 &&& (3 : Int32))), .val (.long (((i1 >>> ((2 : Int32) &&& 31)).toInt8.toInt32).toInt64)), .second, .val (.int (0 : Int32))] []))
            refine OGo.by (fun _ k => XS.iconst X17.here hx rfl (hb hby at_100) k) ?_
            show OGo p e below _ (T17.setTop (mkF m 101 #[.val (.long i0), .second, .val (.int i1), .val (.long (-62167219200000 : Int64)), .second, .val (.long (253402300799999 : Int64)), .second, .val (.long (((i1 >>> ((2 : Int32) &&& 31)).toInt8.toInt32).toInt64)), .second, .val (.int (i1 &&& (3 : Int32))), .val (.long (((i1 >>> ((2 : Int32) &&& 31)).toInt8.toInt32).toInt64)), .second, .val (.int (0 : Int32))] [(.int (1 : Int32))]))
            refine OGo.by (fun _ k => XS.goto X17.here hx rfl (pc0 := 101) (pc' := 105) rfl (hb hby at_101) (by decide) (by decide) k) ?_
            show OGo p e below _ (T17.setTop (mkF m 105 #[.val (.long i0), .second, .val (.int i1), .val (.long (-62167219200000 : Int64)), .second, .val (.long (253402300799999 : Int64)), .second, .val (.long (((i1 >>> ((2 : Int32) &&& 31)).toInt8.toInt32).toInt64)), .second, .val (.int (i1 &&& (3 : Int32))), .val (.long (((i1 >>> ((2 : Int32) &&& 31)).toInt8.toInt32).toInt64)), .second, .val (.int (0 : Int32))] [(.int (1 : Int32))]))
            obtain ⟨fs, hr, hrun, hended, hW, hsame⟩ := X17.leave (v := some (.int (1 : Int32))) (fun h => by rw [Bd.returns] at h; cases h)
            refine OGo.ret (retN X17 hx (t := .boolean) Bd.returns (by simp) (hb hby at_105) hr) hrun hended ⟨_, _, rfl, ?_, ⟨_, rfl⟩, hW, hsame.mono (by decide) (by decide)⟩
            show Q_rm0 Z i0 i1 h0 n0 _ T17.heap _
            rw [e17]
            exact ⟨rfl, N17⟩
          · refine OGo.by (fun _ k => XS.ifNo X0.here hx rfl (hb hby at_80) rfl ((if0 _ _).trans (flt (mt (lw_gt _ _).mp hc80_16)).2.2.1) k) ?_
            show OGo p e below _ (s₁.setTop (mkF m 83 #[.val (.long i0), .second, .val (.int i1), .val (.long (-62167219200000 : Int64)), .second, .val (.long (253402300799999 : Int64)), .second, .val (.long (((i1 >>> ((2 : Int32) &&& 31)).toInt8.toInt32).toInt64)), .second, .val (.int (i1 &&& (3 : Int32))), .val (.long (((i1 >>> ((2 : Int32) &&& 31)).toInt8.toInt32).toInt64)), .second, .unset] []))
            refine OGo.by (fun _ k => XS.iconst X0.here hx rfl (hb hby at_83) k) ?_
            show OGo p e below _ (s₁.setTop (mkF m 84 #[.val (.long i0), .second, .val (.int i1), .val (.long (-62167219200000 : Int64)), .second, .val (.long (253402300799999 : Int64)), .second, .val (.long (((i1 >>> ((2 : Int32) &&& 31)).toInt8.toInt32).toInt64)), .second, .val (.int (i1 &&& (3 : Int32))), .val (.long (((i1 >>> ((2 : Int32) &&& 31)).toInt8.toInt32).toInt64)), .second, .unset] [(.int (1 : Int32))]))
            refine OGo.by (fun _ k => XS.goto X0.here hx rfl (pc0 := 84) (pc' := 88) rfl (hb hby at_84) (by decide) (by decide) k) ?_
            show OGo p e below _ (s₁.setTop (mkF m 88 #[.val (.long i0), .second, .val (.int i1), .val (.long (-62167219200000 : Int64)), .second, .val (.long (253402300799999 : Int64)), .second, .val (.long (((i1 >>> ((2 : Int32) &&& 31)).toInt8.toInt32).toInt64)), .second, .val (.int (i1 &&& (3 : Int32))), .val (.long (((i1 >>> ((2 : Int32) &&& 31)).toInt8.toInt32).toInt64)), .second, .unset] [(.int (1 : Int32))]))
            refine OGo.by (fun _ k => XS.istore X0.here hx rfl (hb hby at_88) rfl (l' := #[.val (.long i0), .second, .val (.int i1), .val (.long (-62167219200000 : Int64)), .second, .val (.long (253402300799999 : Int64)), .second, .val (.long (((i1 >>> ((2 : Int32) &&& 31)).toInt8.toInt32).toInt64)), .second, .val (.int (i1 &&& (3 : Int32))), .val (.long (((i1 >>> ((2 : Int32) &&& 31)).toInt8.toInt32).toInt64)), .second, .val (.int (1 : Int32))]) rfl k) ?_
            show OGo p e below _ (s₁.setTop (mkF m 90 #[.val (.long i0), .second, .val (.int i1), .val (.long (-62167219200000 : Int64)), .second, .val (.long (253402300799999 : Int64)), .second, .val (.long (((i1 >>> ((2 : Int32) &&& 31)).toInt8.toInt32).toInt64)), .second, .val (.int (i1 &&& (3 : Int32))), .val (.long (((i1 >>> ((2 : Int32) &&& 31)).toInt8.toInt32).toInt64)), .second, .val (.int (1 : Int32))] []))
            refine OGo.by (fun _ k => XS.lload X0.here hx rfl (hb hby at_90) rfl k) ?_
            show OGo p e below _ (s₁.setTop (mkF m 92 #[.val (.long i0), .second, .val (.int i1), .val (.long (-62167219200000 : Int64)), .second, .val (.long (253402300799999 : Int64)), .second, .val (.long (((i1 >>> ((2 : Int32) &&& 31)).toInt8.toInt32).toInt64)), .second, .val (.int (i1 &&& (3 : Int32))), .val (.long (((i1 >>> ((2 : Int32) &&& 31)).toInt8.toInt32).toInt64)), .second, .val (.int (1 : Int32))] [(.long (((i1 >>> ((2 : Int32) &&& 31)).toInt8.toInt32).toInt64))]))
            obtain ⟨_, _, ⟨T18, L18, k18, n18⟩, -, X18, ⟨Lc18, hQ18, l18, y18, z18⟩, st18⟩ := Jvm.LawKit.callS X0 hx (y := (⟨"com/example/sluice/sluice/Timestamps", "isInRange", "(J)Z"⟩ : MethodName)) hown (mvT hZ (hw _ (List.mem_of_getElem? (i := 2) rfl))) (mvT hZ (hw _ (List.mem_of_getElem? (i := 3) rfl))) (mvT hZ (hw _ (List.mem_of_getElem? (i := 4) rfl))) (mvT hZ (hw _ (List.mem_of_getElem? (i := 5) rfl))) (by decide) (backOf (W := 0) (rm1 l Z av0 hw [] (((i1 >>> ((2 : Int32) &&& 31)).toInt8.toInt32).toInt64) h0 n0 Z0 S_MIN S_MAX) hZ (hw _ (List.mem_of_getElem? (i := 5) rfl)) (hw _ (List.mem_of_getElem? (i := 4) rfl)) (by decide) (by decide)) (g := (mkF m 92 #[.val (.long i0), .second, .val (.int i1), .val (.long (-62167219200000 : Int64)), .second, .val (.long (253402300799999 : Int64)), .second, .val (.long (((i1 >>> ((2 : Int32) &&& 31)).toInt8.toInt32).toInt64)), .second, .val (.int (i1 &&& (3 : Int32))), .val (.long (((i1 >>> ((2 : Int32) &&& 31)).toInt8.toInt32).toInt64)), .second, .val (.int (1 : Int32))] [(.long (((i1 >>> ((2 : Int32) &&& 31)).toInt8.toInt32).toInt64))])) rfl (by rw [hml]; rfl) (argsL := [(.long (((i1 >>> ((2 : Int32) &&& 31)).toInt8.toInt32).toInt64))]) (rest := []) (lenOf own_pd0 rfl) rfl (by show 2 * 0 + _ ≤ _; exact Nat.le_of_eq rfl) (hb hby at_92) (fun _ _ => ⟨rfl, e0, (by decide : 0 + 0 ≤ _), (by decide : 0 + 0 ≤ _)⟩)
            dsimp only [Pt.U, Pt.locs, Pt.cells, Pt.slots] at X18 l18 y18 z18 st18 hQ18
            subst l18 y18 z18
            obtain ⟨rfl, N18q, e18⟩ := hQ18
            have N18 := Fr.app N0 N18q
            refine OGo.by st18 ?_
            show OGo p e below _ (T18.setTop (mkF m 95 #[.val (.long i0), .second, .val (.int i1), .val (.long (-62167219200000 : Int64)), .second, .val (.long (253402300799999 : Int64)), .second, .val (.long (((i1 >>> ((2 : Int32) &&& 31)).toInt8.toInt32).toInt64)), .second, .val (.int (i1 &&& (3 : Int32))), .val (.long (((i1 >>> ((2 : Int32) &&& 31)).toInt8.toInt32).toInt64)), .second, .val (.int (1 : Int32))] [(.int (own_f1 (((i1 >>> ((2 : Int32) &&& 31)).toInt8.toInt32).toInt64)))]))
            refine OGo.by (fun _ k => XS.iload X18.here hx rfl (hb hby at_95) rfl k) ?_
            show OGo p e below _ (T18.setTop (mkF m 97 #[.val (.long i0), .second, .val (.int i1), .val (.long (-62167219200000 : Int64)), .second, .val (.long (253402300799999 : Int64)), .second, .val (.long (((i1 >>> ((2 : Int32) &&& 31)).toInt8.toInt32).toInt64)), .second, .val (.int (i1 &&& (3 : Int32))), .val (.long (((i1 >>> ((2 : Int32) &&& 31)).toInt8.toInt32).toInt64)), .second, .val (.int (1 : Int32))] [(.int (1 : Int32)), (.int (own_f1 (((i1 >>> ((2 : Int32) &&& 31)).toInt8.toInt32).toInt64)))]))
            refine OGo.by (fun _ k => XS.icmpNo X18.here hx rfl (hb hby at_97) rfl (teq (by unfold own_f1; rw [if_neg hc72_14, if_neg hc80_16] : (own_f1 (((i1 >>> ((2 : Int32) &&& 31)).toInt8.toInt32).toInt64)) = (1 : Int32))).2 k) ?_
            show OGo p e below _ (T18.setTop (mkF m 100 #[.val (.long i0), .second, .val (.int i1), .val (.long (-62167219200000 : Int64)), .second, .val (.long (253402300799999 : Int64)), .second, .val (.long (((i1 >>> ((2 : Int32) &&& 31)).toInt8.toInt32).toInt64)), .second, .val (.int (i1 &&& (3 : Int32))), .val (.long (((i1 >>> ((2 : Int32) &&& 31)).toInt8.toInt32).toInt64)), .second, .val (.int (1 : Int32))] []))
            refine OGo.by (fun _ k => XS.iconst X18.here hx rfl (hb hby at_100) k) ?_
            show OGo p e below _ (T18.setTop (mkF m 101 #[.val (.long i0), .second, .val (.int i1), .val (.long (-62167219200000 : Int64)), .second, .val (.long (253402300799999 : Int64)), .second, .val (.long (((i1 >>> ((2 : Int32) &&& 31)).toInt8.toInt32).toInt64)), .second, .val (.int (i1 &&& (3 : Int32))), .val (.long (((i1 >>> ((2 : Int32) &&& 31)).toInt8.toInt32).toInt64)), .second, .val (.int (1 : Int32))] [(.int (1 : Int32))]))
            refine OGo.by (fun _ k => XS.goto X18.here hx rfl (pc0 := 101) (pc' := 105) rfl (hb hby at_101) (by decide) (by decide) k) ?_
            show OGo p e below _ (T18.setTop (mkF m 105 #[.val (.long i0), .second, .val (.int i1), .val (.long (-62167219200000 : Int64)), .second, .val (.long (253402300799999 : Int64)), .second, .val (.long (((i1 >>> ((2 : Int32) &&& 31)).toInt8.toInt32).toInt64)), .second, .val (.int (i1 &&& (3 : Int32))), .val (.long (((i1 >>> ((2 : Int32) &&& 31)).toInt8.toInt32).toInt64)), .second, .val (.int (1 : Int32))] [(.int (1 : Int32))]))
            obtain ⟨fs, hr, hrun, hended, hW, hsame⟩ := X18.leave (v := some (.int (1 : Int32))) (fun h => by rw [Bd.returns] at h; cases h)
            refine OGo.ret (retN X18 hx (t := .boolean) Bd.returns (by simp) (hb hby at_105) hr) hrun hended ⟨_, _, rfl, ?_, ⟨_, rfl⟩, hW, hsame.mono (by decide) (by decide)⟩
            show Q_rm0 Z i0 i1 h0 n0 _ T18.heap _
            rw [e18]
            exact ⟨rfl, N18⟩
      · refine OGo.by (fun _ k => XS.icmpYes X0.here hx rfl (pc0 := 55) (pc' := 65) rfl (hb hby at_55) rfl (feq hc55_13).2 (by decide) (by decide) k) ?_
        show OGo p e below _ (s₁.setTop (mkF m 65 #[.val (.long i0), .second, .val (.int i1), .val (.long (-62167219200000 : Int64)), .second, .val (.long (253402300799999 : Int64)), .second, .val (.long (((i1 >>> ((2 : Int32) &&& 31)).toInt8.toInt32).toInt64)), .second, .val (.int (i1 &&& (3 : Int32))), .unset, .unset, .unset] []))
        refine OGo.by (fun _ k => XS.lloadN X0.here hx rfl (hb hby at_65) rfl k) ?_
        show OGo p e below _ (s₁.setTop (mkF m 66 #[.val (.long i0), .second, .val (.int i1), .val (.long (-62167219200000 : Int64)), .second, .val (.long (253402300799999 : Int64)), .second, .val (.long (((i1 >>> ((2 : Int32) &&& 31)).toInt8.toInt32).toInt64)), .second, .val (.int (i1 &&& (3 : Int32))), .unset, .unset, .unset] [(.long i0)]))
        refine OGo.by (fun _ k => XS.lstore X0.here hx rfl (hb hby at_66) rfl (l' := #[.val (.long i0), .second, .val (.int i1), .val (.long (-62167219200000 : Int64)), .second, .val (.long (253402300799999 : Int64)), .second, .val (.long (((i1 >>> ((2 : Int32) &&& 31)).toInt8.toInt32).toInt64)), .second, .val (.int (i1 &&& (3 : Int32))), .val (.long i0), .second, .unset]) rfl k) ?_
        show OGo p e below _ (s₁.setTop (mkF m 68 #[.val (.long i0), .second, .val (.int i1), .val (.long (-62167219200000 : Int64)), .second, .val (.long (253402300799999 : Int64)), .second, .val (.long (((i1 >>> ((2 : Int32) &&& 31)).toInt8.toInt32).toInt64)), .second, .val (.int (i1 &&& (3 : Int32))), .val (.long i0), .second, .unset] []))
        refine OGo.by (fun _ k => XS.lload X0.here hx rfl (hb hby at_68) rfl k) ?_
        show OGo p e below _ (s₁.setTop (mkF m 70 #[.val (.long i0), .second, .val (.int i1), .val (.long (-62167219200000 : Int64)), .second, .val (.long (253402300799999 : Int64)), .second, .val (.long (((i1 >>> ((2 : Int32) &&& 31)).toInt8.toInt32).toInt64)), .second, .val (.int (i1 &&& (3 : Int32))), .val (.long i0), .second, .unset] [(.long i0)]))
        refine OGo.by (fun _ k => XS.lloadN X0.here hx rfl (hb hby at_70) rfl k) ?_
        show OGo p e below _ (s₁.setTop (mkF m 71 #[.val (.long i0), .second, .val (.int i1), .val (.long (-62167219200000 : Int64)), .second, .val (.long (253402300799999 : Int64)), .second, .val (.long (((i1 >>> ((2 : Int32) &&& 31)).toInt8.toInt32).toInt64)), .second, .val (.int (i1 &&& (3 : Int32))), .val (.long i0), .second, .unset] [(.long (-62167219200000 : Int64)), (.long i0)]))
        refine OGo.by (fun _ k => XS.lcmp X0.here hx rfl (hb hby at_71) rfl k) ?_
        show OGo p e below _ (s₁.setTop (mkF m 72 #[.val (.long i0), .second, .val (.int i1), .val (.long (-62167219200000 : Int64)), .second, .val (.long (253402300799999 : Int64)), .second, .val (.long (((i1 >>> ((2 : Int32) &&& 31)).toInt8.toInt32).toInt64)), .second, .val (.int (i1 &&& (3 : Int32))), .val (.long i0), .second, .unset] [(.int (lcmpW i0 (-62167219200000 : Int64)))]))
        by_cases hc72_19 : i0 < (-62167219200000 : Int64)
        · refine OGo.by (fun _ k => XS.ifYes X0.here hx rfl (pc0 := 72) (pc' := 87) rfl (hb hby at_72) rfl ((if0 _ _).trans (tlt ((lw_lt _ _).mpr hc72_19)).1) (by decide) (by decide) k) ?_
          show OGo p e below _ (s₁.setTop (mkF m 87 #[.val (.long i0), .second, .val (.int i1), .val (.long (-62167219200000 : Int64)), .second, .val (.long (253402300799999 : Int64)), .second, .val (.long (((i1 >>> ((2 : Int32) &&& 31)).toInt8.toInt32).toInt64)), .second, .val (.int (i1 &&& (3 : Int32))), .val (.long i0), .second, .unset] []))
          refine OGo.by (fun _ k => XS.iconst X0.here hx rfl (hb hby at_87) k) ?_
          show OGo p e below _ (s₁.setTop (mkF m 88 #[.val (.long i0), .second, .val (.int i1), .val (.long (-62167219200000 : Int64)), .second, .val (.long (253402300799999 : Int64)), .second, .val (.long (((i1 >>> ((2 : Int32) &&& 31)).toInt8.toInt32).toInt64)), .second, .val (.int (i1 &&& (3 : Int32))), .val (.long i0), .second, .unset] [(.int (0 : Int32))]))
          refine OGo.by (fun _ k => XS.istore X0.here hx rfl (hb hby at_88) rfl (l' := #[.val (.long i0), .second, .val (.int i1), .val (.long (-62167219200000 : Int64)), .second, .val (.long (253402300799999 : Int64)), .second, .val (.long (((i1 >>> ((2 : Int32) &&& 31)).toInt8.toInt32).toInt64)), .second, .val (.int (i1 &&& (3 : Int32))), .val (.long i0), .second, .val (.int (0 : Int32))]) rfl k) ?_
          show OGo p e below _ (s₁.setTop (mkF m 90 #[.val (.long i0), .second, .val (.int i1), .val (.long (-62167219200000 : Int64)), .second, .val (.long (253402300799999 : Int64)), .second, .val (.long (((i1 >>> ((2 : Int32) &&& 31)).toInt8.toInt32).toInt64)), .second, .val (.int (i1 &&& (3 : Int32))), .val (.long i0), .second, .val (.int (0 : Int32))] []))
          refine OGo.by (fun _ k => XS.lload X0.here hx rfl (hb hby at_90) rfl k) ?_
          show OGo p e below _ (s₁.setTop (mkF m 92 #[.val (.long i0), .second, .val (.int i1), .val (.long (-62167219200000 : Int64)), .second, .val (.long (253402300799999 : Int64)), .second, .val (.long (((i1 >>> ((2 : Int32) &&& 31)).toInt8.toInt32).toInt64)), .second, .val (.int (i1 &&& (3 : Int32))), .val (.long i0), .second, .val (.int (0 : Int32))] [(.long i0)]))
          obtain ⟨_, _, ⟨T20, L20, k20, n20⟩, -, X20, ⟨Lc20, hQ20, l20, y20, z20⟩, st20⟩ := Jvm.LawKit.callS X0 hx (y := (⟨"com/example/sluice/sluice/Timestamps", "isInRange", "(J)Z"⟩ : MethodName)) hown (mvT hZ (hw _ (List.mem_of_getElem? (i := 2) rfl))) (mvT hZ (hw _ (List.mem_of_getElem? (i := 3) rfl))) (mvT hZ (hw _ (List.mem_of_getElem? (i := 4) rfl))) (mvT hZ (hw _ (List.mem_of_getElem? (i := 5) rfl))) (by decide) (backOf (W := 0) (rm1 l Z av0 hw [] i0 h0 n0 Z0 S_MIN S_MAX) hZ (hw _ (List.mem_of_getElem? (i := 5) rfl)) (hw _ (List.mem_of_getElem? (i := 4) rfl)) (by decide) (by decide)) (g := (mkF m 92 #[.val (.long i0), .second, .val (.int i1), .val (.long (-62167219200000 : Int64)), .second, .val (.long (253402300799999 : Int64)), .second, .val (.long (((i1 >>> ((2 : Int32) &&& 31)).toInt8.toInt32).toInt64)), .second, .val (.int (i1 &&& (3 : Int32))), .val (.long i0), .second, .val (.int (0 : Int32))] [(.long i0)])) rfl (by rw [hml]; rfl) (argsL := [(.long i0)]) (rest := []) (lenOf own_pd0 rfl) rfl (by show 2 * 0 + _ ≤ _; exact Nat.le_of_eq rfl) (hb hby at_92) (fun _ _ => ⟨rfl, e0, (by decide : 0 + 0 ≤ _), (by decide : 0 + 0 ≤ _)⟩)
          dsimp only [Pt.U, Pt.locs, Pt.cells, Pt.slots] at X20 l20 y20 z20 st20 hQ20
          subst l20 y20 z20
          obtain ⟨rfl, N20q, e20⟩ := hQ20
          have N20 := Fr.app N0 N20q
          refine OGo.by st20 ?_
          show OGo p e below _ (T20.setTop (mkF m 95 #[.val (.long i0), .second, .val (.int i1), .val (.long (-62167219200000 : Int64)), .second, .val (.long (253402300799999 : Int64)), .second, .val (.long (((i1 >>> ((2 : Int32) &&& 31)).toInt8.toInt32).toInt64)), .second, .val (.int (i1 &&& (3 : Int32))), .val (.long i0), .second, .val (.int (0 : Int32))] [(.int (own_f1 i0))]))
          refine OGo.by (fun _ k => XS.iload X20.here hx rfl (hb hby at_95) rfl k) ?_
          show OGo p e below _ (T20.setTop (mkF m 97 #[.val (.long i0), .second, .val (.int i1), .val (.long (-62167219200000 : Int64)), .second, .val (.long (253402300799999 : Int64)), .second, .val (.long (((i1 >>> ((2 : Int32) &&& 31)).toInt8.toInt32).toInt64)), .second, .val (.int (i1 &&& (3 : Int32))), .val (.long i0), .second, .val (.int (0 : Int32))] [(.int (0 : Int32)), (.int (own_f1 i0))]))
          refine OGo.by (fun _ k => XS.icmpNo X20.here hx rfl (hb hby at_97) rfl (teq (by unfold own_f1; rw [if_pos hc72_19] : (own_f1 i0) = (0 : Int32))).2 k) ?_
          show OGo p e below _ (T20.setTop (mkF m 100 #[.val (.long i0), .second, .val (.int i1), .val (.long (-62167219200000 : Int64)), .second, .val (.long (253402300799999 : Int64)), .second, .val (.long (((i1 >>> ((2 : Int32) &&& 31)).toInt8.toInt32).toInt64)), .second, .val (.int (i1 &&& (3 : Int32))), .val (.long i0), .second, .val (.int (0 : Int32))] []))
          refine OGo.by (fun _ k => XS.iconst X20.here hx rfl (hb hby at_100) k) ?_
          show OGo p e below _ (T20.setTop (mkF m 101 #[.val (.long i0), .second, .val (.int i1), .val (.long (-62167219200000 : Int64)), .second, .val (.long (253402300799999 : Int64)), .second, .val (.long (((i1 >>> ((2 : Int32) &&& 31)).toInt8.toInt32).toInt64)), .second, .val (.int (i1 &&& (3 : Int32))), .val (.long i0), .second, .val (.int (0 : Int32))] [(.int (1 : Int32))]))
          refine OGo.by (fun _ k => XS.goto X20.here hx rfl (pc0 := 101) (pc' := 105) rfl (hb hby at_101) (by decide) (by decide) k) ?_
          show OGo p e below _ (T20.setTop (mkF m 105 #[.val (.long i0), .second, .val (.int i1), .val (.long (-62167219200000 : Int64)), .second, .val (.long (253402300799999 : Int64)), .second, .val (.long (((i1 >>> ((2 : Int32) &&& 31)).toInt8.toInt32).toInt64)), .second, .val (.int (i1 &&& (3 : Int32))), .val (.long i0), .second, .val (.int (0 : Int32))] [(.int (1 : Int32))]))
          obtain ⟨fs, hr, hrun, hended, hW, hsame⟩ := X20.leave (v := some (.int (1 : Int32))) (fun h => by rw [Bd.returns] at h; cases h)
          refine OGo.ret (retN X20 hx (t := .boolean) Bd.returns (by simp) (hb hby at_105) hr) hrun hended ⟨_, _, rfl, ?_, ⟨_, rfl⟩, hW, hsame.mono (by decide) (by decide)⟩
          show Q_rm0 Z i0 i1 h0 n0 _ T20.heap _
          rw [e20]
          exact ⟨rfl, N20⟩
        · refine OGo.by (fun _ k => XS.ifNo X0.here hx rfl (hb hby at_72) rfl ((if0 _ _).trans (flt (mt (lw_lt _ _).mp hc72_19)).1) k) ?_
          show OGo p e below _ (s₁.setTop (mkF m 75 #[.val (.long i0), .second, .val (.int i1), .val (.long (-62167219200000 : Int64)), .second, .val (.long (253402300799999 : Int64)), .second, .val (.long (((i1 >>> ((2 : Int32) &&& 31)).toInt8.toInt32).toInt64)), .second, .val (.int (i1 &&& (3 : Int32))), .val (.long i0), .second, .unset] []))
          refine OGo.by (fun _ k => XS.lload X0.here hx rfl (hb hby at_75) rfl k) ?_
          show OGo p e below _ (s₁.setTop (mkF m 77 #[.val (.long i0), .second, .val (.int i1), .val (.long (-62167219200000 : Int64)), .second, .val (.long (253402300799999 : Int64)), .second, .val (.long (((i1 >>> ((2 : Int32) &&& 31)).toInt8.toInt32).toInt64)), .second, .val (.int (i1 &&& (3 : Int32))), .val (.long i0), .second, .unset] [(.long i0)]))
          refine OGo.by (fun _ k => XS.lload X0.here hx rfl (hb hby at_77) rfl k) ?_
          show OGo p e below _ (s₁.setTop (mkF m 79 #[.val (.long i0), .second, .val (.int i1), .val (.long (-62167219200000 : Int64)), .second, .val (.long (253402300799999 : Int64)), .second, .val (.long (((i1 >>> ((2 : Int32) &&& 31)).toInt8.toInt32).toInt64)), .second, .val (.int (i1 &&& (3 : Int32))), .val (.long i0), .second, .unset] [(.long (253402300799999 : Int64)), (.long i0)]))
          refine OGo.by (fun _ k => XS.lcmp X0.here hx rfl (hb hby at_79) rfl k) ?_
          show OGo p e below _ (s₁.setTop (mkF m 80 #[.val (.long i0), .second, .val (.int i1), .val (.long (-62167219200000 : Int64)), .second, .val (.long (253402300799999 : Int64)), .second, .val (.long (((i1 >>> ((2 : Int32) &&& 31)).toInt8.toInt32).toInt64)), .second, .val (.int (i1 &&& (3 : Int32))), .val (.long i0), .second, .unset] [(.int (lcmpW i0 (253402300799999 : Int64)))]))
          by_cases hc80_21 : (253402300799999 : Int64) < i0
          · refine OGo.by (fun _ k => XS.ifYes X0.here hx rfl (pc0 := 80) (pc' := 87) rfl (hb hby at_80) rfl ((if0 _ _).trans (tlt ((lw_gt _ _).mpr hc80_21)).2.2.1) (by decide) (by decide) k) ?_
            show OGo p e below _ (s₁.setTop (mkF m 87 #[.val (.long i0), .second, .val (.int i1), .val (.long (-62167219200000 : Int64)), .second, .val (.long (253402300799999 : Int64)), .second, .val (.long (((i1 >>> ((2 : Int32) &&& 31)).toInt8.toInt32).toInt64)), .second, .val (.int (i1 &&& (3 : Int32))), .val (.long i0), .second, .unset] []))
            refine OGo.by (fun _ k => XS.iconst X0.here hx rfl (hb hby at_87) k) ?_
            show OGo p e below _ (s₁.setTop (mkF m 88 #[.val (.long i0), .second, .val (.int i1), .val (.long (-62167219200000 : Int64)), .second, .val (.long (253402300799999 : Int64)), .second, .val (.long (((i1 >>> ((2 : Int32) &&& 31)).toInt8.toInt32).toInt64)), .second, .val (.int (i1 &&& (3 : Int32))), .val (.long i0), .second, .unset] [(.int (0 : Int32))]))
            refine OGo.by (fun _ k => XS.istore X0.here hx rfl (hb hby at_88) rfl (l' := #[.val (.long i0), .second, .val (.int i1), .val (.long (-62167219200000 : Int64)), .second, .val (.long (253402300799999 : Int64)), .second, .val (.long (((i1 >>> ((2 : Int32) &&& 31)).toInt8.toInt32).toInt64)), .second, .val (.int (i1 &&& (3 : Int32))), .val (.long i0), .second, .val (.int (0 : Int32))]) rfl k) ?_
            show OGo p e below _ (s₁.setTop (mkF m 90 #[.val (.long i0), .second, .val (.int i1), .val (.long (-62167219200000 : Int64)), .second, .val (.long (253402300799999 : Int64)), .second, .val (.long (((i1 >>> ((2 : Int32) &&& 31)).toInt8.toInt32).toInt64)), .second, .val (.int (i1 &&& (3 : Int32))), .val (.long i0), .second, .val (.int (0 : Int32))] []))
            refine OGo.by (fun _ k => XS.lload X0.here hx rfl (hb hby at_90) rfl k) ?_
            show OGo p e below _ (s₁.setTop (mkF m 92 #[.val (.long i0), .second, .val (.int i1), .val (.long (-62167219200000 : Int64)), .second, .val (.long (253402300799999 : Int64)), .second, .val (.long (((i1 >>> ((2 : Int32) &&& 31)).toInt8.toInt32).toInt64)), .second, .val (.int (i1 &&& (3 : Int32))), .val (.long i0), .second, .val (.int (0 : Int32))] [(.long i0)]))
            obtain ⟨_, _, ⟨T22, L22, k22, n22⟩, -, X22, ⟨Lc22, hQ22, l22, y22, z22⟩, st22⟩ := Jvm.LawKit.callS X0 hx (y := (⟨"com/example/sluice/sluice/Timestamps", "isInRange", "(J)Z"⟩ : MethodName)) hown (mvT hZ (hw _ (List.mem_of_getElem? (i := 2) rfl))) (mvT hZ (hw _ (List.mem_of_getElem? (i := 3) rfl))) (mvT hZ (hw _ (List.mem_of_getElem? (i := 4) rfl))) (mvT hZ (hw _ (List.mem_of_getElem? (i := 5) rfl))) (by decide) (backOf (W := 0) (rm1 l Z av0 hw [] i0 h0 n0 Z0 S_MIN S_MAX) hZ (hw _ (List.mem_of_getElem? (i := 5) rfl)) (hw _ (List.mem_of_getElem? (i := 4) rfl)) (by decide) (by decide)) (g := (mkF m 92 #[.val (.long i0), .second, .val (.int i1), .val (.long (-62167219200000 : Int64)), .second, .val (.long (253402300799999 : Int64)), .second, .val (.long (((i1 >>> ((2 : Int32) &&& 31)).toInt8.toInt32).toInt64)), .second, .val (.int (i1 &&& (3 : Int32))), .val (.long i0), .second, .val (.int (0 : Int32))] [(.long i0)])) rfl (by rw [hml]; rfl) (argsL := [(.long i0)]) (rest := []) (lenOf own_pd0 rfl) rfl (by show 2 * 0 + _ ≤ _; exact Nat.le_of_eq rfl) (hb hby at_92) (fun _ _ => ⟨rfl, e0, (by decide : 0 + 0 ≤ _), (by decide : 0 + 0 ≤ _)⟩)
            dsimp only [Pt.U, Pt.locs, Pt.cells, Pt.slots] at X22 l22 y22 z22 st22 hQ22
            subst l22 y22 z22
            obtain ⟨rfl, N22q, e22⟩ := hQ22
            have N22 := Fr.app N0 N22q
            refine OGo.by st22 ?_
            show OGo p e below _ (T22.setTop (mkF m 95 #[.val (.long i0), .second, .val (.int i1), .val (.long (-62167219200000 : Int64)), .second, .val (.long (253402300799999 : Int64)), .second, .val (.long (((i1 >>> ((2 : Int32) &&& 31)).toInt8.toInt32).toInt64)), .second, .val (.int (i1 &&& (3 : Int32))), .val (.long i0), .second, .val (.int (0 : Int32))] [(.int (own_f1 i0))]))
            refine OGo.by (fun _ k => XS.iload X22.here hx rfl (hb hby at_95) rfl k) ?_
            show OGo p e below _ (T22.setTop (mkF m 97 #[.val (.long i0), .second, .val (.int i1), .val (.long (-62167219200000 : Int64)), .second, .val (.long (253402300799999 : Int64)), .second, .val (.long (((i1 >>> ((2 : Int32) &&& 31)).toInt8.toInt32).toInt64)), .second, .val (.int (i1 &&& (3 : Int32))), .val (.long i0), .second, .val (.int (0 : Int32))] [(.int (0 : Int32)), (.int (own_f1 i0))]))
            refine OGo.by (fun _ k => XS.icmpNo X22.here hx rfl (hb hby at_97) rfl (teq (by unfold own_f1; rw [if_neg hc72_19, if_pos hc80_21] : (own_f1 i0) = (0 : Int32))).2 k) ?_
            show OGo p e below _ (T22.setTop (mkF m 100 #[.val (.long i0), .second, .val (.int i1), .val (.long (-62167219200000 : Int64)), .second, .val (.long (253402300799999 : Int64)), .second, .val (.long (((i1 >>> ((2 : Int32) &&& 31)).toInt8.toInt32).toInt64)), .second, .val (.int (i1 &&& (3 : Int32))), .val (.long i0), .second, .val (.int (0 : Int32))] []))
            refine OGo.by (fun _ k => XS.iconst X22.here hx rfl (hb hby at_100) k) ?_
            show OGo p e below _ (T22.setTop (mkF m 101 #[.val (.long i0), .second, .val (.int i1), .val (.long (-62167219200000 : Int64)), .second, .val (.long (253402300799999 : Int64)), .second, .val (.long (((i1 >>> ((2 : Int32) &&& 31)).toInt8.toInt32).toInt64)), .second, .val (.int (i1 &&& (3 : Int32))), .val (.long i0), .second, .val (.int (0 : Int32))] [(.int (1 : Int32))]))
            refine OGo.by (fun _ k => XS.goto X22.here hx rfl (pc0 := 101) (pc' := 105) rfl (hb hby at_101) (by decide) (by decide) k) ?_
            show OGo p e below _ (T22.setTop (mkF m 105 #[.val (.long i0), .second, .val (.int i1), .val (.long (-62167219200000 : Int64)), .second, .val (.long (253402300799999 : Int64)), .second, .val (.long (((i1 >>> ((2 : Int32) &&& 31)).toInt8.toInt32).toInt64)), .second, .val (.int (i1 &&& (3 : Int32))), .val (.long i0), .second, .val (.int (0 : Int32))] [(.int (1 : Int32))]))
            obtain ⟨fs, hr, hrun, hended, hW, hsame⟩ := X22.leave (v := some (.int (1 : Int32))) (fun h => by rw [Bd.returns] at h; cases h)
            refine OGo.ret (retN X22 hx (t := .boolean) Bd.returns (by simp) (hb hby at_105) hr) hrun hended ⟨_, _, rfl, ?_, ⟨_, rfl⟩, hW, hsame.mono (by decide) (by decide)⟩
            show Q_rm0 Z i0 i1 h0 n0 _ T22.heap _
            rw [e22]
            exact ⟨rfl, N22⟩
          · refine OGo.by (fun _ k => XS.ifNo X0.here hx rfl (hb hby at_80) rfl ((if0 _ _).trans (flt (mt (lw_gt _ _).mp hc80_21)).2.2.1) k) ?_
            show OGo p e below _ (s₁.setTop (mkF m 83 #[.val (.long i0), .second, .val (.int i1), .val (.long (-62167219200000 : Int64)), .second, .val (.long (253402300799999 : Int64)), .second, .val (.long (((i1 >>> ((2 : Int32) &&& 31)).toInt8.toInt32).toInt64)), .second, .val (.int (i1 &&& (3 : Int32))), .val (.long i0), .second, .unset] []))
            refine OGo.by (fun _ k => XS.iconst X0.here hx rfl (hb hby at_83) k) ?_
            show OGo p e below _ (s₁.setTop (mkF m 84 #[.val (.long i0), .second, .val (.int i1), .val (.long (-62167219200000 : Int64)), .second, .val (.long (253402300799999 : Int64)), .second, .val (.long (((i1 >>> ((2 : Int32) &&& 31)).toInt8.toInt32).toInt64)), .second, .val (.int (i1 &&& (3 : Int32))), .val (.long i0), .second, .unset] [(.int (1 : Int32))]))
            refine OGo.by (fun _ k => XS.goto X0.here hx rfl (pc0 := 84) (pc' := 88) rfl (hb hby at_84) (by decide) (by decide) k) ?_
            show OGo p e below _ (s₁.setTop (mkF m 88 #[.val (.long i0), .second, .val (.int i1), .val (.long (-62167219200000 : Int64)), .second, .val (.long (253402300799999 : Int64)), .second, .val (.long (((i1 >>> ((2 : Int32) &&& 31)).toInt8.toInt32).toInt64)), .second, .val (.int (i1 &&& (3 : Int32))), .val (.long i0), .second, .unset] [(.int (1 : Int32))]))
            refine OGo.by (fun _ k => XS.istore X0.here hx rfl (hb hby at_88) rfl (l' := #[.val (.long i0), .second, .val (.int i1), .val (.long (-62167219200000 : Int64)), .second, .val (.long (253402300799999 : Int64)), .second, .val (.long (((i1 >>> ((2 : Int32) &&& 31)).toInt8.toInt32).toInt64)), .second, .val (.int (i1 &&& (3 : Int32))), .val (.long i0), .second, .val (.int (1 : Int32))]) rfl k) ?_
            show OGo p e below _ (s₁.setTop (mkF m 90 #[.val (.long i0), .second, .val (.int i1), .val (.long (-62167219200000 : Int64)), .second, .val (.long (253402300799999 : Int64)), .second, .val (.long (((i1 >>> ((2 : Int32) &&& 31)).toInt8.toInt32).toInt64)), .second, .val (.int (i1 &&& (3 : Int32))), .val (.long i0), .second, .val (.int (1 : Int32))] []))
            refine OGo.by (fun _ k => XS.lload X0.here hx rfl (hb hby at_90) rfl k) ?_
            show OGo p e below _ (s₁.setTop (mkF m 92 #[.val (.long i0), .second, .val (.int i1), .val (.long (-62167219200000 : Int64)), .second, .val (.long (253402300799999 : Int64)), .second, .val (.long (((i1 >>> ((2 : Int32) &&& 31)).toInt8.toInt32).toInt64)), .second, .val (.int (i1 &&& (3 : Int32))), .val (.long i0), .second, .val (.int (1 : Int32))] [(.long i0)]))
            obtain ⟨_, _, ⟨T23, L23, k23, n23⟩, -, X23, ⟨Lc23, hQ23, l23, y23, z23⟩, st23⟩ := Jvm.LawKit.callS X0 hx (y := (⟨"com/example/sluice/sluice/Timestamps", "isInRange", "(J)Z"⟩ : MethodName)) hown (mvT hZ (hw _ (List.mem_of_getElem? (i := 2) rfl))) (mvT hZ (hw _ (List.mem_of_getElem? (i := 3) rfl))) (mvT hZ (hw _ (List.mem_of_getElem? (i := 4) rfl))) (mvT hZ (hw _ (List.mem_of_getElem? (i := 5) rfl))) (by decide) (backOf (W := 0) (rm1 l Z av0 hw [] i0 h0 n0 Z0 S_MIN S_MAX) hZ (hw _ (List.mem_of_getElem? (i := 5) rfl)) (hw _ (List.mem_of_getElem? (i := 4) rfl)) (by decide) (by decide)) (g := (mkF m 92 #[.val (.long i0), .second, .val (.int i1), .val (.long (-62167219200000 : Int64)), .second, .val (.long (253402300799999 : Int64)), .second, .val (.long (((i1 >>> ((2 : Int32) &&& 31)).toInt8.toInt32).toInt64)), .second, .val (.int (i1 &&& (3 : Int32))), .val (.long i0), .second, .val (.int (1 : Int32))] [(.long i0)])) rfl (by rw [hml]; rfl) (argsL := [(.long i0)]) (rest := []) (lenOf own_pd0 rfl) rfl (by show 2 * 0 + _ ≤ _; exact Nat.le_of_eq rfl) (hb hby at_92) (fun _ _ => ⟨rfl, e0, (by decide : 0 + 0 ≤ _), (by decide : 0 + 0 ≤ _)⟩)
            dsimp only [Pt.U, Pt.locs, Pt.cells, Pt.slots] at X23 l23 y23 z23 st23 hQ23
            subst l23 y23 z23
            obtain ⟨rfl, N23q, e23⟩ := hQ23
            have N23 := Fr.app N0 N23q
            refine OGo.by st23 ?_
            show OGo p e below _ (T23.setTop (mkF m 95 #[.val (.long i0), .second, .val (.int i1), .val (.long (-62167219200000 : Int64)), .second, .val (.long (253402300799999 : Int64)), .second, .val (.long (((i1 >>> ((2 : Int32) &&& 31)).toInt8.toInt32).toInt64)), .second, .val (.int (i1 &&& (3 : Int32))), .val (.long i0), .second, .val (.int (1 : Int32))] [(.int (own_f1 i0))]))
            refine OGo.by (fun _ k => XS.iload X23.here hx rfl (hb hby at_95) rfl k) ?_
            show OGo p e below _ (T23.setTop (mkF m 97 #[.val (.long i0), .second, .val (.int i1), .val (.long (-62167219200000 : Int64)), .second, .val (.long (253402300799999 : Int64)), .second, .val (.long (((i1 >>> ((2 : Int32) &&& 31)).toInt8.toInt32).toInt64)), .second, .val (.int (i1 &&& (3 : Int32))), .val (.long i0), .second, .val (.int (1 : Int32))] [(.int (1 : Int32)), (.int (own_f1 i0))]))
            refine OGo.by (fun _ k => XS.icmpNo X23.here hx rfl (hb hby at_97) rfl (teq (by unfold own_f1; rw [if_neg hc72_19, if_neg hc80_21] : (own_f1 i0) = (1 : Int32))).2 k) ?_
            show OGo p e below _ (T23.setTop (mkF m 100 #[.val (.long i0), .second, .val (.int i1), .val (.long (-62167219200000 : Int64)), .second, .val (.long (253402300799999 : Int64)), .second, .val (.long (((i1 >>> ((2 : Int32) &&& 31)).toInt8.toInt32).toInt64)), .second, .val (.int (i1 &&& (3 : Int32))), .val (.long i0), .second, .val (.int (1 : Int32))] []))
            refine OGo.by (fun _ k => XS.iconst X23.here hx rfl (hb hby at_100) k) ?_
            show OGo p e below _ (T23.setTop (mkF m 101 #[.val (.long i0), .second, .val (.int i1), .val (.long (-62167219200000 : Int64)), .second, .val (.long (253402300799999 : Int64)), .second, .val (.long (((i1 >>> ((2 : Int32) &&& 31)).toInt8.toInt32).toInt64)), .second, .val (.int (i1 &&& (3 : Int32))), .val (.long i0), .second, .val (.int (1 : Int32))] [(.int (1 : Int32))]))
            refine OGo.by (fun _ k => XS.goto X23.here hx rfl (pc0 := 101) (pc' := 105) rfl (hb hby at_101) (by decide) (by decide) k) ?_
            show OGo p e below _ (T23.setTop (mkF m 105 #[.val (.long i0), .second, .val (.int i1), .val (.long (-62167219200000 : Int64)), .second, .val (.long (253402300799999 : Int64)), .second, .val (.long (((i1 >>> ((2 : Int32) &&& 31)).toInt8.toInt32).toInt64)), .second, .val (.int (i1 &&& (3 : Int32))), .val (.long i0), .second, .val (.int (1 : Int32))] [(.int (1 : Int32))]))
            obtain ⟨fs, hr, hrun, hended, hW, hsame⟩ := X23.leave (v := some (.int (1 : Int32))) (fun h => by rw [Bd.returns] at h; cases h)
            refine OGo.ret (retN X23 hx (t := .boolean) Bd.returns (by simp) (hb hby at_105) hr) hrun hended ⟨_, _, rfl, ?_, ⟨_, rfl⟩, hW, hsame.mono (by decide) (by decide)⟩
            show Q_rm0 Z i0 i1 h0 n0 _ T23.heap _
            rw [e23]
            exact ⟨rfl, N23⟩
set_option maxRecDepth 65536 in
set_option maxHeartbeats 40000000 in
theorem comes_1 {Post : Tables → Env → Array Value → State → Outcome → State → Prop} (hpost : ∀ tb e args s v u, (limb_1_1.after args s (.returned v) u = true ∧ limb_1_2.after args s (.returned v) u = true ∧ True) → FrameEnd s (.returned v) u (Jvm.fieldLocs frame_1_writes args s ++ Jvm.arrayLocs frame_1_arrays args s ++ Jvm.staticLocs frame_1_statics s) 0 0 → Post tb e args s (.returned v) u) :
    ArmFor flags0 classFile x code maxLocals ret World_1 tables_1 room_1 Calls_1 rest_1 Pre_1 Post := by
  intro l hfl _ _ p e ha hc hk s m args below hf hA hF happ hP
  obtain ⟨hcalls, hrest, hpre⟩ := hP
  obtain ⟨-, -, -, hnamed, -, -, -, hat⟩ := (Spec.applies_iff hf).mp happ
  obtain ⟨hg, hn⟩ := and_e (Cond.before_iff.mp (show (Jvm.Cond.and given_1 narrow_1).before args s = true from hpre))
  obtain ⟨hg0, hgr⟩ := and_e hg
  obtain ⟨hv0, hgr0⟩ := and_e hgr
  obtain ⟨w0, w1, rfl⟩ : ∃ w0 w1 : Value, args = #[w0, w1] := by
    have hs : args.size = 2 := by simpa [Cond.value, given_1] using hg0
    obtain ⟨L⟩ := args
    match L, hs with
    | [w0, w1], _ => exact ⟨w0, w1, rfl⟩
  have hw := fun d (hd : d ∈ tables_1) => atoms_spec (ws := Jvm.Cond.code x code maxLocals ret :: tables_1) hat d (List.mem_cons_of_mem _ hd)
  have hfit : Fit s := fun {y c} hc i hi => by
    obtain ⟨ha, rfl⟩ := Array.getElem?_eq_some_iff.mp hc
    have q := List.all_eq_true.mp ((Array.all_eq_true_iff_forall_mem.mp hF) _ (Array.getElem_mem ha)) i (List.mem_range.mpr hi)
    simpa [Array.getElem?_eq_getElem hi] using q
  obtain ⟨i0, ei0⟩ := isL_v hv0
  obtain rfl : w0 = (.long i0) := Option.some.inj ei0
  obtain ⟨i1, ei1⟩ := is_v hgr0
  obtain rfl : w1 = (.int i1) := Option.some.inj ei1
  obtain ⟨hn1, hn2⟩ := and_e hn
  have S1 := Sta.start (own_eqL hn1) (Or.inr ⟨(hw _ (List.mem_of_getElem? (i := 4) rfl)), (hw _ (List.mem_of_getElem? (i := 7) rfl))⟩)
  have S2 := Sta.start (own_eqL hn2) (Or.inr ⟨(hw _ (List.mem_of_getElem? (i := 4) rfl)), (hw _ (List.mem_of_getElem? (i := 9) rfl))⟩)
  obtain ⟨n, o, h1, h2, h3, _, L, rfl, ⟨rfl, N⟩, hq⟩ := rm0 l s _ hw tables_1 i0 i1 s.heap s.heap.size (Nat.le_refl _) S1 S2 p e ha hc hk s m _ below hf ((Spec.applies_iff_loose hf).mp happ).1 ⟨rfl, State.Warmed39.refl s, rfl⟩ trivial
  refine ⟨n, _, h1, h2, h3, hpost _ _ _ _ _ _ ⟨Cond.after_iff.mpr rfl, Cond.after_iff.mpr (eq_i res_at (Term.int_eval (1)) rfl), trivial⟩ ⟨hq.1, hq.2.1, (hq.2.2.sift fun y hy => Or.inr (N y hy)).mono (by decide) (by decide)⟩⟩
theorem main_1_1 : Claimed_1_1 := comes_1 fun _ _ _ _ _ _ h hF => ⟨h.1, hF⟩
theorem main_1_2 : Claimed_1_2 := comes_1 fun _ _ _ _ _ _ h hF => ⟨h.2.1, hF⟩
end Jvm.Pilot.@@N@@
namespace Jvm.Pilot.@@N@@
open Jvm Jvm.ClassFile Sem Op Lib Jvm.Free Jvm.Stand Jvm.Pilot.@@N@@.Jvm.D
/-! MADE BY PROGRAM (witnessworld.py) out of the Statement's table words and the real class files: 9 classes; the members and pool entries that the words name. The judged class is class 1, her method 1. -/
namespace start1
open Jvm.ClassFile
def u (s : String) : CpInfo := .utf8 (stringToUtf16 s)
/-- a pool by its gaps: so many unusable entries, then the entry; so many at the end -/
def gap : Nat → List CpInfo → List CpInfo
  | 0, r => r
  | n + 1, r => .unusable :: gap n r
def poolList (es : List (Nat × CpInfo)) (last : Nat) : List CpInfo := es.foldr (fun e r => gap e.1 (e.2 :: r)) (gap last [])
def pool (es : List (Nat × CpInfo)) (last : Nat) : Array CpInfo := ⟨poolList es last⟩
def fileOf (pool : Array CpInfo) (this : Nat) (attrs : Array Attribute := #[]) (ms : Array MethodInfo := #[]) (fl : Nat := 33) (sup : Nat := 0) (ifs : Array Nat := #[]) (fds : Array FieldInfo := #[]) : ClassFile where
  minorVersion := 0
  majorVersion := 65
  constantPool := pool
  accessFlags := fl
  thisClass := this
  superClass := sup
  interfaces := ifs
  fields := fds
  methods := ms
  attributes := attrs
def plain (name : String) (sup : Option ClassId) : Class where
  name := name
  kind := .ordinary
  loader := none
  accessFlags := 33
  super := sup
  interfaces := #[]
  cf := none
  fields := #[]
  methods := #[]
  instanceTypes := #[]
  staticTypes := #[]
  resolved := #[]
  callSites := []
  init := .initialized
  statics := none
  mirror := none

def pool0 : Array CpInfo := pool [(5, u "<init>"), (0, u "()V"), (1, .class_ 10), (1, u "java/lang/Object")] 113

def k0m0 : Method := { name := "<init>", desc := "()V", sig := { parameters := [], returnType := none }, accessFlags := 1, code := none }
/-- java/lang/Object -/
def k0 : Class := { plain "java/lang/Object" none with
  accessFlags := 33
  interfaces := #[]
  cf := some (fileOf pool0 8 #[] #[{ accessFlags := 1, nameIndex := 5, descriptorIndex := 6, attributes := #[] }] 33 0 #[] #[])
  fields := #[]
  methods := #[k0m0]
  instanceTypes := #[]
  staticTypes := #[]
  resolved := Array.replicate 124 none
  statics := none }

def pool1 : Array CpInfo := pool [(2, .class_ 4), (1, u "java/lang/Object"), (0, u "<init>"), (0, u "()V"), (0, .long 18446681906490351616), (1, .long 253402300799999), (1, .methodref 12 13), (0, .class_ 14), (0, .nameAndType 15 16), (0, u "com/example/sluice/sluice/Timestamps"), (0, u "isInRange"), (0, u "(J)Z"), (0, .class_ 18), (0, u "com/example/sluice/sluice/TimestampsIsInRangePinLaw"), (2, u "law"), (0, u "(JI)Z")] 3

def k1m0 : Method := { name := "<init>", desc := "()V", sig := { parameters := [], returnType := none }, accessFlags := 1, code := none }
def k1c1 : Code := { maxStack := 4, maxLocals := 13, code := code, exceptionTable := #[], attributes := #[] }
def k1m1 : Method := { name := "law", desc := "(JI)Z", sig := { parameters := [.long, .int], returnType := some .boolean }, accessFlags := 9, code := some k1c1 }
/-- com/example/sluice/sluice/TimestampsIsInRangePinLaw -/
def k1 : Class := { plain "com/example/sluice/sluice/TimestampsIsInRangePinLaw" (some 0) with
  accessFlags := 49
  interfaces := #[]
  cf := some (fileOf pool1 17 #[] #[{ accessFlags := 1, nameIndex := 5, descriptorIndex := 6, attributes := #[] }, { accessFlags := 9, nameIndex := 21, descriptorIndex := 22, attributes := #[] }] 49 2 #[] #[])
  fields := #[]
  methods := #[k1m0, k1m1]
  instanceTypes := #[]
  staticTypes := #[]
  resolved := Array.replicate 26 none
  statics := none }

def pool2 : Array CpInfo := pool [(2, .class_ 4), (1, u "java/lang/Object"), (0, u "<init>"), (0, u "()V"), (6, .class_ 14), (0, u "com/example/sluice/sluice/Timestamps"), (12, u "FORMS"), (0, u "[Ljava/lang/String;"), (55, u "MILLIS_PER_FRACTION_UNIT"), (0, u "[I"), (2, u "isInRange"), (0, u "(J)Z"), (50, .fieldref 13 141), (0, .nameAndType 142 143), (0, u "MIN_MILLIS"), (0, u "J"), (0, .fieldref 13 145), (0, .nameAndType 146 143), (0, u "MAX_MILLIS"), (16, u "MILLIS_PER_DAY"), (1, u "SECONDS_END"), (0, u "I")] 29

def k2m0 : Method := { name := "<init>", desc := "()V", sig := { parameters := [], returnType := none }, accessFlags := 2, code := none }
def k2c1 : Code := { maxStack := 4, maxLocals := 2, code := prog_5_method_4_code, exceptionTable := #[], attributes := #[] }
def k2m1 : Method := { name := "isInRange", desc := "(J)Z", sig := { parameters := [.long], returnType := some .boolean }, accessFlags := 9, code := some k2c1 }
/-- com/example/sluice/sluice/Timestamps -/
def k2 : Class := { plain "com/example/sluice/sluice/Timestamps" (some 0) with
  accessFlags := 49
  interfaces := #[]
  cf := some (fileOf pool2 13 #[] #[{ accessFlags := 2, nameIndex := 5, descriptorIndex := 6, attributes := #[] }, { accessFlags := 9, nameIndex := 88, descriptorIndex := 89, attributes := #[] }] 49 2 #[] #[{ accessFlags := 26, nameIndex := 163, descriptorIndex := 143, attributes := #[] }, { accessFlags := 25, nameIndex := 142, descriptorIndex := 143, attributes := #[] }, { accessFlags := 25, nameIndex := 146, descriptorIndex := 143, attributes := #[] }, { accessFlags := 26, nameIndex := 27, descriptorIndex := 28, attributes := #[] }, { accessFlags := 26, nameIndex := 165, descriptorIndex := 166, attributes := #[] }, { accessFlags := 26, nameIndex := 84, descriptorIndex := 85, attributes := #[] }])
  fields := #[{ name := "MILLIS_PER_DAY", type := .long, accessFlags := 26, slot := 0, constantValue := 0 }, { name := "MIN_MILLIS", type := .long, accessFlags := 25, slot := 1, constantValue := 0 }, { name := "MAX_MILLIS", type := .long, accessFlags := 25, slot := 2, constantValue := 0 }, { name := "FORMS", type := (.array (.object "java/lang/String")), accessFlags := 26, slot := 3, constantValue := 0 }, { name := "SECONDS_END", type := .int, accessFlags := 26, slot := 4, constantValue := 0 }, { name := "MILLIS_PER_FRACTION_UNIT", type := (.array .int), accessFlags := 26, slot := 5, constantValue := 0 }]
  methods := #[k2m0, k2m1]
  instanceTypes := #[]
  staticTypes := #[.long, .long, .long, (.array (.object "java/lang/String")), .int, (.array .int)]
  resolved := Array.replicate 196 none
  statics := some 0 }

def pool3 : Array CpInfo := pool [(1, u "java/lang/Cloneable"), (0, .class_ 1), (0, u "java/lang/Object"), (0, .class_ 3)] 3

/-- java/lang/Cloneable -/
def k3 : Class := { plain "java/lang/Cloneable" (some 0) with
  accessFlags := 1537
  interfaces := #[]
  cf := some (fileOf pool3 2 #[] #[] 1537 4 #[] #[])
  fields := #[]
  methods := #[]
  instanceTypes := #[]
  staticTypes := #[]
  resolved := Array.replicate 8 none
  statics := none }

def pool4 : Array CpInfo := pool [(1, u "java/io/Serializable"), (0, .class_ 1), (0, u "java/lang/Object"), (0, .class_ 3)] 3

/-- java/io/Serializable -/
def k4 : Class := { plain "java/io/Serializable" (some 0) with
  accessFlags := 1537
  interfaces := #[]
  cf := some (fileOf pool4 2 #[] #[] 1537 4 #[] #[])
  fields := #[]
  methods := #[]
  instanceTypes := #[]
  staticTypes := #[]
  resolved := Array.replicate 8 none
  statics := none }

/-- the primitive byte -/
def k5 : Class := { plain "byte" none with kind := .primitive 'B', accessFlags := 0x411 }
/-- [B -/
def k6 : Class := { plain "[B" (some 0) with kind := .array 5 .byte, interfaces := #[3, 4], accessFlags := 1041 }

/-- the primitive int -/
def k7 : Class := { plain "int" none with kind := .primitive 'I', accessFlags := 0x411 }
/-- [I -/
def k8 : Class := { plain "[I" (some 0) with kind := .array 7 .int, interfaces := #[3, 4], accessFlags := 1041 }

def heap : Heap := #[{ cls := 2, slots := #[.long 0, .long (-62167219200000), .long 253402300799999, .null, .int 0, .null], vm := .statics 2 }]
def classes : Array Class := #[k0, k1, k2, k3, k4, k5, k6, k7, k8]
def interned : List (Array UInt16 × Addr) := []
def slotsUsed : Nat := 6
def theMethod : MethodId := ⟨1, 1⟩
def args0 : Array Value := #[.long 5, .int 3]
def aboutOver (below : List Frame) : State where
  vm := { classes := classes, interned := interned.toArray }
  heap := heap
  slotsUsed := slotsUsed
  threads := #[{ frames := .invoking theMethod args0 :: below }]
def below0 : List Frame := [.native { method := ⟨0, 0⟩, args := #[] }]
def about1 : State := aboutOver below0
def p0 : Program := .bare "" "" ""
def e0 : Env := launch0.env 0 0 0
theorem w_frames : about1.frames = Frame.invoking theMethod args0 :: below0 := rfl
set_option maxRecDepth 65536 in
theorem w_args : argsFit about1.vm theMethod args0 = true := by decide +kernel
set_option maxRecDepth 65536 in
theorem w_heap : heapFits about1 = true := by decide +kernel
set_option maxRecDepth 65536 in
theorem w_runnable : about1.curStatus? = some .runnable := by decide +kernel
set_option maxRecDepth 65536 in
theorem w_alone : about1.alone = true := by decide +kernel
set_option maxRecDepth 65536 in
theorem w_named : about1.methodNamed? x = some theMethod := by decide +kernel
set_option maxRecDepth 65536 in
theorem w_hears : about1.hears theMethod below0 = true := by decide +kernel
set_option maxRecDepth 65536 in
theorem w_ripe : about1.ripe theMethod args0 below0 = true := by decide +kernel
theorem w_running : about1.status = .running := rfl
set_option maxRecDepth 65536 in
theorem w_room : about1.hasRoom e0.platform room_1 = true :=
  launch0.hasRoom_least _ room_1 (by decide +kernel) (by decide +kernel) (by decide +kernel) (by decide +kernel) (by decide +kernel) (by decide +kernel)
theorem allAtoms_all (ts : List Jvm.Cond) (a : Array Jvm.Value) (st : Jvm.State) : (allAtoms ts).before a st = ts.all (fun c => c.before a st) := by
  induction ts with
  | nil => rfl
  | cons c t ih =>
    show (Jvm.Cond.and c (allAtoms t)).before a st = _
    rw [Jvm.Cond.before_and, ih, List.all_cons]
def words1 : List Jvm.Cond := Jvm.Cond.code x code maxLocals ret :: tables_1
/-- a 'code' word, met by the world's own term for the bytes: nothing is compared byte by byte -/
theorem code_word {y : MethodName} {bytes : ByteArray} {mx : Nat} {rt : Option FieldType} {a : Array Value} {s : State} {m : MethodId} {meth : Method} {c : Code} (h1 : s.methodNamed? y = some m) (h2 : s.vm.method? m = some meth) (h3 : meth.code = some c) (h4 : c.code = bytes)
    (h5 : (c.maxLocals == mx && c.exceptionTable.isEmpty && decide (c.maxStack ≤ mostOperands) && decide (meth.sig.returnType = rt) && !meth.locks && decide (parseMethodDescriptor y.desc = some meth.sig)) = true) : (Jvm.Cond.code y bytes mx rt).before a s = true := by
  simp only [Bool.and_eq_true, beq_iff_eq, Bool.not_eq_true', decide_eq_true_eq] at h5
  obtain ⟨⟨⟨⟨⟨g1, g2⟩, g3⟩, g4⟩, g5⟩, g6⟩ := h5
  simp [Cond.before, Cond.holds, Cond.value, h1, h2, h3, h4, g1, g2, g3, g4, g5, g6]
def isCode : Jvm.Cond → Bool
  | .code _ _ _ _ => true
  | _ => false
theorem all_split {L : List Jvm.Cond} {P : Jvm.Cond → Bool} (h1 : L.all (fun c => isCode c || P c) = true) (h2 : ∀ c ∈ L.filter isCode, P c = true) : L.all P = true := by
  refine List.all_eq_true.mpr fun c hc => ?_
  have h := List.all_eq_true.mp h1 c hc
  rcases Bool.eq_false_or_eq_true (isCode c) with hi | hi
  · exact h2 c (List.mem_filter.mpr ⟨hc, hi⟩)
  · simpa [hi] using h
set_option maxRecDepth 65536 in
theorem w_c0 : (Jvm.Cond.code x code maxLocals ret).before args0 about1 = true := code_word (m := ⟨1, 1⟩) (meth := k1m1) (c := k1c1) (by decide +kernel) rfl rfl rfl (by decide +kernel)
set_option maxRecDepth 65536 in
theorem w_c1 : (Jvm.Cond.code ({ cls := "com/example/sluice/sluice/Timestamps", name := "isInRange", desc := "(J)Z" } : Jvm.MethodName) prog_5_method_4_code (2 : Nat) (Option.some Jvm.ClassFile.FieldType.boolean)).before args0 about1 = true := code_word (m := ⟨2, 1⟩) (meth := k2m1) (c := k2c1) (by decide +kernel) rfl rfl rfl (by decide +kernel)
def codes1 : List Jvm.Cond := [Jvm.Cond.code x code maxLocals ret, Jvm.Cond.code ({ cls := "com/example/sluice/sluice/Timestamps", name := "isInRange", desc := "(J)Z" } : Jvm.MethodName) prog_5_method_4_code (2 : Nat) (Option.some Jvm.ClassFile.FieldType.boolean)]
set_option maxRecDepth 65536 in
theorem codes_eq : words1.filter isCode = codes1 := rfl
theorem w_codes : ∀ c ∈ words1.filter isCode, c.before args0 about1 = true := by
  rw [codes_eq]
  intro c hc
  simp only [codes1, List.mem_cons, List.not_mem_nil, or_false] at hc
  rcases hc with rfl | rfl
  · exact w_c0
  · exact w_c1
set_option maxRecDepth 65536 in
theorem w_t1 : words1.all (fun c => isCode c || c.before args0 about1) = true := by decide +kernel
theorem w_tables : (allAtoms (Jvm.Cond.code x code maxLocals ret :: tables_1)).before args0 about1 = true := by
  rw [allAtoms_all]
  show words1.all (fun c => c.before args0 about1) = true
  refine all_split ?_ w_codes
  rw [w_t1]
set_option maxRecDepth 65536 in
theorem w_case : (Jvm.Cond.and given_1 narrow_1).before args0 about1 = true := by decide +kernel
theorem w_applies : (headSpec (Jvm.Cond.code x code maxLocals ret :: tables_1) room_1).applies x e0.platform about1 = true :=
  (Spec.applies_iff w_frames).mpr ⟨w_running, w_runnable, w_alone, w_named, w_hears, w_ripe, w_room, w_tables⟩
theorem atStart : AtStart classFile x code maxLocals ret World_1 tables_1 room_1 Calls_1 rest_1 Pre_1 launch0 p0 e0 about1 theMethod args0 below0 :=
  ⟨lists_1, trivial, launch0.admits_env _ _ _, launch0.least_env, fairChoices_fair.cas, fairChoices_fair.clock, w_frames, w_args, w_heap, w_applies, trivial, trivial, w_case⟩
end start1
theorem witness_1 : WitnessClaimed_1 := ⟨start1.p0, start1.e0, start1.about1, start1.theMethod, start1.args0, start1.below0, start1.atStart⟩
end Jvm.Pilot.@@N@@
