import JvmDerived
import JvmDerived.Pilot.@@N@@Statement
import JvmDerived.Pilot.@@N@@Code
set_option linter.unusedVariables false
set_option linter.unusedSimpArgs false
namespace Jvm.RoadKit
open Sem ClassFile Op Lib Jvm.Stand Jvm.Free Jvm.LawKit
section New
variable {p : Program} {l : Launch} {e : Env} {R : Room} {s : State} {m : MethodId} {args : Array Value} {below : List Frame} {meth : Method} {c : Code} {T : State} {locs : List Loc} {cells slots : Nat}
theorem retI (X : Stand p l e R s m args below meth c T locs cells slots) (hx : p.tables.exec = Jvm.exec) {pc : Nat} {Ls : Array Slot} {z : Int32} {rest : List Value} (hret : meth.sig.returnType = some .int) (hd : decode c.code pc = .ok (.ireturn, 1)) {fs : List Frame}
    (hl : ∀ (f : JFrame) (acts : List Action), f.method = m → f.locked = none → f.entered = [] → (doReturn e (T.setTop f) acts (some (.int z))).1 = T.setFrames fs) : Steps p.tables e below (T.setTop (mkF m pc Ls (.int z :: rest))) (T.setFrames fs) := by
  have hm' : T.vm.method? m = some meth := X.method'
  have hn : narrow .int (.int z) = .int z := rfl
  show Steps p.tables e below (T.setTop { method := m, pc := pc, locals := Ls, stack := _ :: rest, locked := none }) _
  jvm_step X.here [X.here.top, hx, hd, hm', hret, hn]
  first | (intro acts; rw [hl _ acts rfl rfl rfl]) | rw [hl _ _ rfl rfl rfl]
  exact Steps.refl _
end New
end Jvm.RoadKit
namespace Jvm.Pilot.@@N@@
open Jvm Jvm.ClassFile Sem Op Lib Jvm.Free Jvm.Stand Jvm.LawKit Jvm.RoadKit Bundle Jvm.Pilot.@@N@@.Jvm.D
/-- from S the run ends, in a state and with an outcome of which P holds -/
def OGo (p : Program) (e : Env) (below : List Frame) (P : State → Outcome → Prop) (S : State) : Prop :=
  ∃ s₂ o, Steps p.tables e below S s₂ ∧ s₂.status = .running ∧ Ended s₂ below o ∧ P s₂ o
theorem OGo.by {p : Program} {e : Env} {below : List Frame} {P : State → Outcome → Prop} {S S' : State} (h : ∀ t, Steps p.tables e below S' t → Steps p.tables e below S t) (g : OGo p e below P S') : OGo p e below P S := by
  obtain ⟨s₂, o, h1, h2⟩ := g; exact ⟨s₂, o, h _ h1, h2⟩
theorem OGo.of {p : Program} {e : Env} {below : List Frame} {P : State → Outcome → Prop} {S S' : State} (h : Steps p.tables e below S S') (g : OGo p e below P S') : OGo p e below P S := by
  obtain ⟨s₂, o, h1, h2⟩ := g; exact ⟨s₂, o, h.trans h1, h2⟩
theorem OGo.ret {p : Program} {e : Env} {below : List Frame} {P : State → Outcome → Prop} {S S' : State} {o : Outcome} (h : Steps p.tables e below S S') (h1 : S'.status = .running) (h2 : Ended S' below o) (h3 : P S' o) : OGo p e below P S := ⟨S', o, h, h1, h2, h3⟩
theorem own_eqL {args : Array Value} {first s : State} {o : Option Outcome} {idx : List Nat} {t : Term} {n : Int64} (h : (Jvm.Cond.eq t (.long n)).value args first o s idx = some true) : t.eval args first o idx s = some (.long n) := by
  obtain ⟨x, y, h1, h2, -, k⟩ := cmp_v (Or.inl h)
  obtain rfl : y = .long n := (Option.some.inj (h2.symm.trans (long_at n)))
  obtain ⟨z, rfl⟩ := k
  have q := gotT (eq_L h1 h2) h
  rw [h1, q]
theorem own_eqI {args : Array Value} {first s : State} {o : Option Outcome} {idx : List Nat} {t : Term} {n : Int32} (h : (Jvm.Cond.eq t (.int n)).value args first o s idx = some true) : t.eval args first o idx s = some (.int n) := by
  obtain ⟨x, y, h1, h2, -, k⟩ := cmp_v (Or.inl h)
  obtain rfl : y = .int n := (Option.some.inj (h2.symm.trans (Term.int_eval n)))
  obtain ⟨z, rfl⟩ := k
  have q := gotT (Cond.eq_ints h1 h2) h
  rw [h1, q]
theorem own_sta_keep0 {Z : State} {h h' : Heap} {C n d : String} {v : Value} (F : Sta Z h C n d v) (K : Keep h h' []) : Sta Z h' C n d v := by
  obtain ⟨cf, i, k, f, st, cell, h1, h2, h3, h4, h5, h6, h7⟩ := F
  exact ⟨cf, i, k, f, st, cell, h1, h2, h3, h4, K.2.1 _ _ h5 nin0, h6, h7⟩
theorem d2_0 : decode prog_7_method_1_code 0 = .ok (.aload_n 0, 1) := by decide +kernel
theorem d2_1 : decode prog_7_method_1_code 1 = .ok (.invokespecial 1, 3) := by decide +kernel
theorem d2_4 : decode prog_7_method_1_code 4 = .ok (.aload_n 0, 1) := by decide +kernel
theorem d2_5 : decode prog_7_method_1_code 5 = .ok (.lload_n 1, 1) := by decide +kernel
theorem d2_6 : decode prog_7_method_1_code 6 = .ok (.putfield 7, 3) := by decide +kernel
theorem d2_9 : decode prog_7_method_1_code 9 = .ok (.aload_n 0, 1) := by decide +kernel
theorem d2_10 : decode prog_7_method_1_code 10 = .ok (.aload_n 3, 1) := by decide +kernel
theorem d2_11 : decode prog_7_method_1_code 11 = .ok (.putfield 13, 3) := by decide +kernel
theorem d2_14 : decode prog_7_method_1_code 14 = .ok (.return_, 1) := by decide +kernel
theorem own_pn2 : plainName "com/example/trusty_lock/trustylock/GrantReply" = true := by first | (simp [plainName, overriddenIn]; done) | decide +kernel
theorem ef_rm2 (m : MethodId) (a0 : Addr) (q1 : Int64) (a2 : Addr) : entryFrame m #[(.ref a0), (.long q1), (.ref a2)] 4 = mkF m 0 #[.val (.ref a0), .val (.long q1), .second, .val (.ref a2)] [] := by first | (simp [entryFrame, mkF, argsToLocals, Value.category]; done) | rfl
def Q_rm2 (Z : State) (a0 : Addr) (q1 : Int64) (a2 : Addr) (h0 : Heap) (n0 : Nat) (v : Option Value) (h : Heap) (L : List Loc) : Prop := v = none ∧ Fr n0 L ∧ Keep h0 h [a0] ∧ (Exa Z h a0 "com/example/trusty_lock/trustylock/GrantReply") ∧ (Fld Z h a0 "com/example/trusty_lock/trustylock/GrantReply" "token" "J" (.long q1)) ∧ (Fld Z h a0 "com/example/trusty_lock/trustylock/GrantReply" "leaseLeft" "Ljava/time/Duration;" (.ref a2))
set_option maxRecDepth 65536 in
set_option maxHeartbeats 40000000 in
theorem rm2 (l : Launch) (Z : State) (av0 : Array Value) (hw : ∀ d ∈ tables_1, d.before av0 Z = true) (ws : List Jvm.Cond) (a0 : Addr) (q1 : Int64) (a2 : Addr) (h0 : Heap) (n0 : Nat) (Z0 : n0 ≤ h0.size) (E0 : Exa Z h0 a0 "com/example/trusty_lock/trustylock/GrantReply") (F0 : Fld Z h0 a0 "com/example/trusty_lock/trustylock/GrantReply" "token" "J" (.long (0 : Int64))) (F1 : Fld Z h0 a0 "com/example/trusty_lock/trustylock/GrantReply" "leaseLeft" "Ljava/time/Duration;" .null) (g_a0 : n0 ≤ a0) :
    MetFree l (⟨"com/example/trusty_lock/trustylock/GrantReply", "<init>", "(JLjava/time/Duration;)V"⟩ : MethodName) (head1 (Jvm.Cond.code (⟨"com/example/trusty_lock/trustylock/GrantReply", "<init>", "(JLjava/time/Duration;)V"⟩ : MethodName) prog_7_method_1_code 4 none :: ws) ({ frames := 1, cells := 0, slots := 0, locals := 12 } : Room)) (fun a U => a = #[(.ref a0), (.long q1), (.ref a2)] ∧ Z.Warmed39 U.vm ∧ U.heap = h0) (fun _ _ _ _ _ => True) (fun _ U o U' => ∃ v L, o = .returned v ∧ Q_rm2 Z a0 q1 a2 h0 n0 v U'.heap L ∧ FrameEnd U o U' L ({ frames := 1, cells := 0, slots := 0, locals := 12 } : Room).cells ({ frames := 1, cells := 0, slots := 0, locals := 12 } : Room).slots) := by
  refine MetFree.of_bodySF (plainFor_of_name own_pn2) hisR ?_
  intro p e s m args below meth c s₁ Bd hml0 hP hK
  obtain ⟨rfl, hZ, hh⟩ := hP
  have hx := Bd.exec
  have hby := Bd.bytes
  have hml : c.maxLocals = 4 := hml0
  have hown : s.vm.findClass "com/example/trusty_lock/trustylock/GrantReply" = some m.cls := findClass_of_methodNamed Bd.named
  have hnm := (name_of_methodNamed Bd.named Bd.method).1
  have X0 : Stand p l e ({ frames := 1, cells := 0, slots := 0, locals := 12 } : Room) s m #[(.ref a0), (.long q1), (.ref a2)] below meth c s₁ [] 0 0 := Stand.of_body Bd
  have e0 : s₁.heap = h0 := by rw [← hh, Bd.state]; rfl
  have N0 := Fr.nil n0
  refine OGo.by (P := fun U' o => ∃ v L, o = .returned v ∧ Q_rm2 Z a0 q1 a2 h0 n0 v U'.heap L ∧ FrameEnd s o U' L ({ frames := 1, cells := 0, slots := 0, locals := 12 } : Room).cells ({ frames := 1, cells := 0, slots := 0, locals := 12 } : Room).slots) (fun t k => castTop (ef_rm2 m a0 q1 a2) k) ?_
  show OGo p e below _ (s₁.setTop (mkF m 0 #[.val (.ref a0), .val (.long q1), .second, .val (.ref a2)] []))
  refine OGo.by (fun _ k => XS.aloadN X0.here hx rfl (hb hby d2_0) rfl rfl k) ?_
  show OGo p e below _ (s₁.setTop (mkF m 1 #[.val (.ref a0), .val (.long q1), .second, .val (.ref a2)] [(.ref a0)]))
  obtain ⟨T1, X1, e1, st1⟩ := initO X0 hx hZ hown (hw _ (List.mem_of_getElem? (i := 12) rfl)) (hw _ (List.mem_of_getElem? (i := 13) rfl)) (hw _ (List.mem_of_getElem? (i := 14) rfl)) e0 (g := (mkF m 1 #[.val (.ref a0), .val (.long q1), .second, .val (.ref a2)] [(.ref a0)])) rfl (by rw [hml]; rfl) rfl (hb hby d2_1) (by decide) (W := 0) (by show 2 * 0 + _ ≤ _; exact Nat.le_of_eq rfl) (by decide)
  refine OGo.by st1 ?_
  show OGo p e below _ (T1.setTop (mkF m 4 #[.val (.ref a0), .val (.long q1), .second, .val (.ref a2)] []))
  refine OGo.by (fun _ k => XS.aloadN X1.here hx rfl (hb hby d2_4) rfl rfl k) ?_
  show OGo p e below _ (T1.setTop (mkF m 5 #[.val (.ref a0), .val (.long q1), .second, .val (.ref a2)] [(.ref a0)]))
  refine OGo.by (fun _ k => XS.lloadN X1.here hx rfl (hb hby d2_5) rfl k) ?_
  show OGo p e below _ (T1.setTop (mkF m 6 #[.val (.ref a0), .val (.long q1), .second, .val (.ref a2)] [(.long q1), (.ref a0)]))
  obtain ⟨T2, h2, X2, e2, W2, st2⟩ := putF X1 hx hZ hown (host := "") (Or.inl (hw _ (List.mem_of_getElem? (i := 15) rfl))) Via.refl e1 F0 E0 (Or.inr ⟨(hw _ (List.mem_of_getElem? (i := 16) rfl)), rfl, hnm⟩) (hw _ (List.mem_of_getElem? (i := 6) rfl)) (ty := .long) (by decide) rfl rfl (g := (mkF m 6 #[.val (.ref a0), .val (.long q1), .second, .val (.ref a2)] [(.long q1), (.ref a0)])) rfl rfl (hb hby d2_6)
  refine OGo.by st2 ?_
  have Fw2 := F0.same W2
  have N2 := Fr.snoc X2 N0 g_a0
  have K2 : Keep h0 h2 [a0] := ((Keep.refl h0 [a0])).wr W2 (Or.inl (List.mem_of_getElem? (i := 0) rfl))
  show OGo p e below _ (T2.setTop (mkF m 9 #[.val (.ref a0), .val (.long q1), .second, .val (.ref a2)] []))
  refine OGo.by (fun _ k => XS.aloadN X2.here hx rfl (hb hby d2_9) rfl rfl k) ?_
  show OGo p e below _ (T2.setTop (mkF m 10 #[.val (.ref a0), .val (.long q1), .second, .val (.ref a2)] [(.ref a0)]))
  refine OGo.by (fun _ k => XS.aloadN X2.here hx rfl (hb hby d2_10) rfl rfl k) ?_
  show OGo p e below _ (T2.setTop (mkF m 11 #[.val (.ref a0), .val (.long q1), .second, .val (.ref a2)] [(.ref a2), (.ref a0)]))
  have f3 : Exa Z h2 a0 "com/example/trusty_lock/trustylock/GrantReply" := (E0.wr W2)
  have f4 : Fld Z h2 a0 "com/example/trusty_lock/trustylock/GrantReply" "leaseLeft" "Ljava/time/Duration;" .null := (F1.other W2 (Or.inr (slot_ne (Or.inr (hw _ (List.mem_of_getElem? (i := 18) rfl))) (Or.inr (hw _ (List.mem_of_getElem? (i := 16) rfl))) (by decide) (t := (.object "java/time/Duration")) (t' := .long) (by decide) (by decide))))
  obtain ⟨T5, h5, X5, e5, W5, st5⟩ := putF X2 hx hZ hown (host := "") (Or.inl (hw _ (List.mem_of_getElem? (i := 17) rfl))) Via.refl e2 f4 f3 (Or.inr ⟨(hw _ (List.mem_of_getElem? (i := 18) rfl)), rfl, hnm⟩) (hw _ (List.mem_of_getElem? (i := 6) rfl)) (ty := (.object "java/time/Duration")) (by decide) rfl rfl (g := (mkF m 11 #[.val (.ref a0), .val (.long q1), .second, .val (.ref a2)] [(.ref a2), (.ref a0)])) rfl rfl (hb hby d2_11)
  refine OGo.by st5 ?_
  have Fw5 := f4.same W5
  have N5 := Fr.snoc X5 N2 g_a0
  have K5 : Keep h0 h5 [a0] := (K2).wr W5 (Or.inl (List.mem_of_getElem? (i := 0) rfl))
  show OGo p e below _ (T5.setTop (mkF m 14 #[.val (.ref a0), .val (.long q1), .second, .val (.ref a2)] []))
  obtain ⟨fs, hr, hrun, hended, hW, hsame⟩ := X5.leave (v := none) (fun _ => rfl)
  refine OGo.ret (X5.returnOut hx Bd.returns (hb hby d2_14) hr) hrun hended ⟨_, _, rfl, ?_, ⟨_, rfl⟩, hW, hsame.mono (by decide) (by decide)⟩
  show Q_rm2 Z a0 q1 a2 h0 n0 _ T5.heap _
  rw [e5]
  have f6 : Exa Z h5 a0 "com/example/trusty_lock/trustylock/GrantReply" := (f3.wr W5)
  have f7 : Fld Z h5 a0 "com/example/trusty_lock/trustylock/GrantReply" "token" "J" (.long q1) := (Fw2.other W5 (Or.inr (slot_ne (Or.inr (hw _ (List.mem_of_getElem? (i := 16) rfl))) (Or.inr (hw _ (List.mem_of_getElem? (i := 18) rfl))) (by decide) (t := .long) (t' := (.object "java/time/Duration")) (by decide) (by decide))))
  exact ⟨rfl, N5, K5, f6, f7, Fw5⟩
theorem d1_0 : decode prog_7_method_2_code 0 = .ok (.lload_n 0, 1) := by decide +kernel
theorem d1_1 : decode prog_7_method_2_code 1 = .ok (.lconst 1, 1) := by decide +kernel
theorem d1_2 : decode prog_7_method_2_code 2 = .ok (.lcmp, 1) := by decide +kernel
theorem d1_3 : decode prog_7_method_2_code 3 = .ok (.ifCond .ge 17, 3) := by decide +kernel
theorem d1_20 : decode prog_7_method_2_code 20 = .ok (.new 8, 3) := by decide +kernel
theorem d1_23 : decode prog_7_method_2_code 23 = .ok (.dup, 1) := by decide +kernel
theorem d1_24 : decode prog_7_method_2_code 24 = .ok (.lload_n 0, 1) := by decide +kernel
theorem d1_25 : decode prog_7_method_2_code 25 = .ok (.getstatic 26, 3) := by decide +kernel
theorem d1_28 : decode prog_7_method_2_code 28 = .ok (.invokespecial 31, 3) := by decide +kernel
theorem own_pd0 : parseMethodDescriptor "(JLjava/time/Duration;)V" = some ⟨[.long, (.object "java/time/Duration")], none⟩ := by decide +kernel
theorem d1_31 : decode prog_7_method_2_code 31 = .ok (.areturn, 1) := by decide +kernel
theorem own_pn1 : plainName "com/example/trusty_lock/trustylock/GrantReply" = true := by first | (simp [plainName, overriddenIn]; done) | decide +kernel
theorem ef_rm1 (m : MethodId) (q0 : Int64) : entryFrame m #[(.long q0)] 2 = mkF m 0 #[.val (.long q0), .second] [] := by first | (simp [entryFrame, mkF, argsToLocals, Value.category]; done) | rfl
def Q_rm1 (Z : State) (q0 : Int64) (w : Addr) (h0 : Heap) (n0 : Nat) (v : Option Value) (h : Heap) (L : List Loc) : Prop := ∃ b : Addr, v = some (.ref b) ∧ Fr n0 L ∧ Keep h0 h [] ∧ (h0.size ≤ b) ∧ (n0 ≤ b) ∧ (Exa Z h b "com/example/trusty_lock/trustylock/GrantReply") ∧ (Fld Z h b "com/example/trusty_lock/trustylock/GrantReply" "token" "J" (.long q0)) ∧ (Fld Z h b "com/example/trusty_lock/trustylock/GrantReply" "leaseLeft" "Ljava/time/Duration;" (.ref w))
set_option maxRecDepth 65536 in
set_option maxHeartbeats 40000000 in
theorem rm1 (l : Launch) (Z : State) (av0 : Array Value) (hw : ∀ d ∈ tables_1, d.before av0 Z = true) (ws : List Jvm.Cond) (q0 : Int64) (w : Addr) (h0 : Heap) (n0 : Nat) (Z0 : n0 ≤ h0.size) (S0 : Sta Z h0 "java/time/Duration" "ZERO" "Ljava/time/Duration;" (.ref w)) (hq : ¬ q0 < (1 : Int64)) :
    MetFree l (⟨"com/example/trusty_lock/trustylock/GrantReply", "granted", "(J)Lcom/example/trusty_lock/trustylock/GrantReply;"⟩ : MethodName) (head1 (Jvm.Cond.code (⟨"com/example/trusty_lock/trustylock/GrantReply", "granted", "(J)Lcom/example/trusty_lock/trustylock/GrantReply;"⟩ : MethodName) prog_7_method_2_code 2 (some (.object "com/example/trusty_lock/trustylock/GrantReply")) :: ws) ({ frames := 2, cells := 1, slots := 2, locals := 28 } : Room)) (fun a U => a = #[(.long q0)] ∧ Z.Warmed39 U.vm ∧ U.heap = h0) (fun _ _ _ _ _ => True) (fun _ U o U' => ∃ v L, o = .returned v ∧ Q_rm1 Z q0 w h0 n0 v U'.heap L ∧ FrameEnd U o U' L ({ frames := 2, cells := 1, slots := 2, locals := 28 } : Room).cells ({ frames := 2, cells := 1, slots := 2, locals := 28 } : Room).slots) := by
  refine MetFree.of_bodySF (plainFor_of_name own_pn1) hisR ?_
  intro p e s m args below meth c s₁ Bd hml0 hP hK
  obtain ⟨rfl, hZ, hh⟩ := hP
  have hx := Bd.exec
  have hby := Bd.bytes
  have hml : c.maxLocals = 2 := hml0
  have hown : s.vm.findClass "com/example/trusty_lock/trustylock/GrantReply" = some m.cls := findClass_of_methodNamed Bd.named
  have hnm := (name_of_methodNamed Bd.named Bd.method).1
  have X0 : Stand p l e ({ frames := 2, cells := 1, slots := 2, locals := 28 } : Room) s m #[(.long q0)] below meth c s₁ [] 0 0 := Stand.of_body Bd
  have e0 : s₁.heap = h0 := by rw [← hh, Bd.state]; rfl
  have N0 := Fr.nil n0
  refine OGo.by (P := fun U' o => ∃ v L, o = .returned v ∧ Q_rm1 Z q0 w h0 n0 v U'.heap L ∧ FrameEnd s o U' L ({ frames := 2, cells := 1, slots := 2, locals := 28 } : Room).cells ({ frames := 2, cells := 1, slots := 2, locals := 28 } : Room).slots) (fun t k => castTop (ef_rm1 m q0) k) ?_
  show OGo p e below _ (s₁.setTop (mkF m 0 #[.val (.long q0), .second] []))
  refine OGo.by (fun _ k => XS.lloadN X0.here hx rfl (hb hby d1_0) rfl k) ?_
  show OGo p e below _ (s₁.setTop (mkF m 1 #[.val (.long q0), .second] [(.long q0)]))
  refine OGo.by (fun _ k => XS.lconst X0.here hx rfl (hb hby d1_1) k) ?_
  show OGo p e below _ (s₁.setTop (mkF m 2 #[.val (.long q0), .second] [(.long (1 : Int64)), (.long q0)]))
  refine OGo.by (fun _ k => XS.lcmp X0.here hx rfl (hb hby d1_2) rfl k) ?_
  show OGo p e below _ (s₁.setTop (mkF m 3 #[.val (.long q0), .second] [(.int (lcmpW q0 (1 : Int64)))]))
  refine OGo.by (fun _ k => XS.ifYes X0.here hx rfl (pc0 := 3) (pc' := 20) rfl (hb hby d1_3) rfl ((if0 _ _).trans (flt (mt (lw_lt _ _).mp hq)).2.1) (by decide) (by decide) k) ?_
  show OGo p e below _ (s₁.setTop (mkF m 20 #[.val (.long q0), .second] []))
  obtain ⟨T1, h1, X1, e1, E1, A1, D1, U1, st1⟩ := newO X0 hx hZ hown (hw _ (List.mem_of_getElem? (i := 5) rfl)) (hw _ (List.mem_of_getElem? (i := 6) rfl)) (hw _ (List.mem_of_getElem? (i := 3) rfl)) e0 (g := (mkF m 20 #[.val (.long q0), .second] [])) rfl (hb hby d1_20) (by decide) (by decide)
  obtain ⟨b1, g1⟩ : ∃ z, z = h0.size := ⟨_, rfl⟩
  rw [← g1] at A1 D1 U1 st1
  have g_b1 : n0 ≤ b1 := Nat.le_trans Z0 (Nat.le_of_eq g1.symm)
  have sz_b1 : h0.size ≤ b1 := Nat.le_trans (Nat.le_refl _) (Nat.le_of_eq g1.symm)
  refine OGo.by st1 ?_
  have K1 : Keep h0 h1 [] := ((Keep.refl h0 [])).ext E1
  have F1_token : Fld Z h1 b1 "com/example/trusty_lock/trustylock/GrantReply" "token" "J" (.long (0 : Int64)) := D1 (Or.inr (hw _ (List.mem_of_getElem? (i := 16) rfl))) (ty := .long) (by decide)
  have F1_leaseLeft : Fld Z h1 b1 "com/example/trusty_lock/trustylock/GrantReply" "leaseLeft" "Ljava/time/Duration;" .null := D1 (Or.inr (hw _ (List.mem_of_getElem? (i := 18) rfl))) (ty := (.object "java/time/Duration")) (by decide)
  show OGo p e below _ (T1.setTop (mkF m 23 #[.val (.long q0), .second] [(.ref b1)]))
  refine OGo.by (fun _ k => XS.dup X1.here hx rfl (hb hby d1_23) rfl rfl k) ?_
  show OGo p e below _ (T1.setTop (mkF m 24 #[.val (.long q0), .second] [(.ref b1), (.ref b1)]))
  refine OGo.by (fun _ k => XS.lloadN X1.here hx rfl (hb hby d1_24) rfl k) ?_
  show OGo p e below _ (T1.setTop (mkF m 25 #[.val (.long q0), .second] [(.long q0), (.ref b1), (.ref b1)]))
  have f2 : Sta Z h1 "java/time/Duration" "ZERO" "Ljava/time/Duration;" (.ref w) := (S0.ext E1)
  obtain ⟨T3, X3, e3, st3⟩ := getS2 X1 hx hZ hown (host := "") (Or.inl (hw _ (List.mem_of_getElem? (i := 7) rfl))) Via.refl e1 f2 (g := (mkF m 25 #[.val (.long q0), .second] [(.long q0), (.ref b1), (.ref b1)])) rfl (hb hby d1_25)
  refine OGo.by st3 ?_
  show OGo p e below _ (T3.setTop (mkF m 28 #[.val (.long q0), .second] [(.ref w), (.long q0), (.ref b1), (.ref b1)]))
  obtain ⟨_, _, ⟨T4, L4, k4, n4⟩, -, X4, ⟨Lc4, hQ4, l4, y4, z4⟩, st4⟩ := X3.specialBack hx (y := (⟨"com/example/trusty_lock/trustylock/GrantReply", "<init>", "(JLjava/time/Duration;)V"⟩ : MethodName)) rfl hown (mvT hZ (hw _ (List.mem_of_getElem? (i := 9) rfl))) (mvT hZ (hw _ (List.mem_of_getElem? (i := 10) rfl))) (mvT hZ (hw _ (List.mem_of_getElem? (i := 11) rfl))) (by decide) (backOf (W := 1) (rm2 l Z av0 hw [] b1 q0 w h1 n0 (Nat.le_trans Z0 K1.1) A1 F1_token F1_leaseLeft g_b1) hZ (hw _ (List.mem_of_getElem? (i := 11) rfl)) (hw _ (List.mem_of_getElem? (i := 3) rfl)) (by decide) (by decide)) (g := (mkF m 28 #[.val (.long q0), .second] [(.ref w), (.long q0), (.ref b1), (.ref b1)])) rfl (by rw [hml]; rfl) (Steps.refl _) (a := b1) (argsL := [(.long q0), (.ref w)]) (rest := [(.ref b1)]) (lenOf own_pd0 rfl) rfl (by show 2 * 0 + _ ≤ _; exact Nat.le_of_eq rfl) (hb hby d1_28) (fun _ _ => ⟨rfl, e3, (by decide : 1 + 0 ≤ _), (by decide : 2 + 0 ≤ _)⟩)
  dsimp only [Pt.U, Pt.locs, Pt.cells, Pt.slots] at X4 l4 y4 z4 st4 hQ4
  subst l4 y4 z4
  obtain ⟨rfl, N4q, Kc4, G4_0, G4_1, G4_2⟩ := hQ4
  have N4 := Fr.app N0 N4q
  have K4 : Keep h0 T4.heap [] := (K1).trans Kc4 (fun x hx => by simp only [List.mem_cons, List.not_mem_nil, or_false] at hx; subst hx; exact Or.inr sz_b1)
  refine OGo.of st4 ?_
  show OGo p e below _ (T4.setTop (mkF m 31 #[.val (.long q0), .second] [(.ref b1)]))
  obtain ⟨fs, hr, hrun, hended, hW, hsame⟩ := X4.leave (v := some (.ref b1)) (fun h => by rw [Bd.returns] at h; cases h)
  refine OGo.ret (retOut X4 hx Bd.returns rfl (Or.inr (Or.inr (Or.inr (Or.inr ⟨rfl, rfl, rfl⟩)))) (hb hby d1_31) hr) hrun hended ⟨_, _, rfl, ?_, ⟨_, rfl⟩, hW, hsame.mono (by decide) (by decide)⟩
  show Q_rm1 Z q0 w h0 n0 _ T4.heap _
  exact ⟨b1, rfl, N4, K4, sz_b1, g_b1, G4_0, G4_1, G4_2⟩
theorem d4_0 : decode prog_7_method_4_code 0 = .ok (.aload_n 0, 1) := by decide +kernel
theorem d4_1 : decode prog_7_method_4_code 1 = .ok (.getfield 7, 3) := by decide +kernel
theorem d4_4 : decode prog_7_method_4_code 4 = .ok (.lconst 0, 1) := by decide +kernel
theorem d4_5 : decode prog_7_method_4_code 5 = .ok (.lcmp, 1) := by decide +kernel
theorem d4_6 : decode prog_7_method_4_code 6 = .ok (.ifCond .le 7, 3) := by decide +kernel
theorem d4_9 : decode prog_7_method_4_code 9 = .ok (.iconst 1, 1) := by decide +kernel
theorem d4_10 : decode prog_7_method_4_code 10 = .ok (.goto 4, 3) := by decide +kernel
theorem d4_14 : decode prog_7_method_4_code 14 = .ok (.ireturn, 1) := by decide +kernel
theorem d4_13 : decode prog_7_method_4_code 13 = .ok (.iconst 0, 1) := by decide +kernel
theorem own_pn4 : plainName "com/example/trusty_lock/trustylock/GrantReply" = true := by first | (simp [plainName, overriddenIn]; done) | decide +kernel
theorem ef_rm4 (m : MethodId) (a0 : Addr) : entryFrame m #[(.ref a0)] 1 = mkF m 0 #[.val (.ref a0)] [] := by first | (simp [entryFrame, mkF, argsToLocals, Value.category]; done) | rfl
def own_isG (q : Int64) : Int32 := (if (0 : Int64) < q then (1 : Int32) else (0 : Int32))
def Q_rm4 (Z : State) (a0 : Addr) (q : Int64) (h0 : Heap) (n0 : Nat) (v : Option Value) (h : Heap) (L : List Loc) : Prop := v = some (.int (own_isG q)) ∧ Fr n0 L ∧ h = h0
set_option maxRecDepth 65536 in
set_option maxHeartbeats 40000000 in
theorem rm4 (l : Launch) (Z : State) (av0 : Array Value) (hw : ∀ d ∈ tables_1, d.before av0 Z = true) (ws : List Jvm.Cond) (a0 : Addr) (q : Int64) (h0 : Heap) (n0 : Nat) (Z0 : n0 ≤ h0.size) (F0 : Fld Z h0 a0 "com/example/trusty_lock/trustylock/GrantReply" "token" "J" (.long q)) :
    MetFree l (⟨"com/example/trusty_lock/trustylock/GrantReply", "isGranted", "()Z"⟩ : MethodName) (head1 (Jvm.Cond.code (⟨"com/example/trusty_lock/trustylock/GrantReply", "isGranted", "()Z"⟩ : MethodName) prog_7_method_4_code 1 (some .boolean) :: ws) ({ frames := 0, cells := 0, slots := 0, locals := 0 } : Room)) (fun a U => a = #[(.ref a0)] ∧ Z.Warmed39 U.vm ∧ U.heap = h0) (fun _ _ _ _ _ => True) (fun _ U o U' => ∃ v L, o = .returned v ∧ Q_rm4 Z a0 q h0 n0 v U'.heap L ∧ FrameEnd U o U' L ({ frames := 0, cells := 0, slots := 0, locals := 0 } : Room).cells ({ frames := 0, cells := 0, slots := 0, locals := 0 } : Room).slots) := by
  refine MetFree.of_bodySF (plainFor_of_name own_pn4) hisR ?_
  intro p e s m args below meth c s₁ Bd hml0 hP hK
  obtain ⟨rfl, hZ, hh⟩ := hP
  have hx := Bd.exec
  have hby := Bd.bytes
  have hml : c.maxLocals = 1 := hml0
  have hown : s.vm.findClass "com/example/trusty_lock/trustylock/GrantReply" = some m.cls := findClass_of_methodNamed Bd.named
  have hnm := (name_of_methodNamed Bd.named Bd.method).1
  have X0 : Stand p l e ({ frames := 0, cells := 0, slots := 0, locals := 0 } : Room) s m #[(.ref a0)] below meth c s₁ [] 0 0 := Stand.of_body Bd
  have e0 : s₁.heap = h0 := by rw [← hh, Bd.state]; rfl
  have N0 := Fr.nil n0
  refine OGo.by (P := fun U' o => ∃ v L, o = .returned v ∧ Q_rm4 Z a0 q h0 n0 v U'.heap L ∧ FrameEnd s o U' L ({ frames := 0, cells := 0, slots := 0, locals := 0 } : Room).cells ({ frames := 0, cells := 0, slots := 0, locals := 0 } : Room).slots) (fun t k => castTop (ef_rm4 m a0) k) ?_
  show OGo p e below _ (s₁.setTop (mkF m 0 #[.val (.ref a0)] []))
  refine OGo.by (fun _ k => XS.aloadN X0.here hx rfl (hb hby d4_0) rfl rfl k) ?_
  show OGo p e below _ (s₁.setTop (mkF m 1 #[.val (.ref a0)] [(.ref a0)]))
  obtain ⟨T1, X1, e1, st1⟩ := getF X0 hx hZ hown (host := "") (Or.inl (hw _ (List.mem_of_getElem? (i := 15) rfl))) Via.refl e0 F0 (g := (mkF m 1 #[.val (.ref a0)] [(.ref a0)])) rfl rfl (hb hby d4_1)
  refine OGo.by st1 ?_
  show OGo p e below _ (T1.setTop (mkF m 4 #[.val (.ref a0)] [(.long q)]))
  refine OGo.by (fun _ k => XS.lconst X1.here hx rfl (hb hby d4_4) k) ?_
  show OGo p e below _ (T1.setTop (mkF m 5 #[.val (.ref a0)] [(.long (0 : Int64)), (.long q)]))
  refine OGo.by (fun _ k => XS.lcmp X1.here hx rfl (hb hby d4_5) rfl k) ?_
  show OGo p e below _ (T1.setTop (mkF m 6 #[.val (.ref a0)] [(.int (lcmpW q (0 : Int64)))]))
  by_cases hc6_2 : (0 : Int64) < q
  · refine OGo.by (fun _ k => XS.ifNo X1.here hx rfl (hb hby d4_6) rfl ((if0 _ _).trans (tlt ((lw_gt _ _).mpr hc6_2)).2.2.2) k) ?_
    show OGo p e below _ (T1.setTop (mkF m 9 #[.val (.ref a0)] []))
    refine OGo.by (fun _ k => XS.iconst X1.here hx rfl (hb hby d4_9) k) ?_
    show OGo p e below _ (T1.setTop (mkF m 10 #[.val (.ref a0)] [(.int (1 : Int32))]))
    refine OGo.by (fun _ k => XS.goto X1.here hx rfl (pc0 := 10) (pc' := 14) rfl (hb hby d4_10) (by decide) (by decide) k) ?_
    show OGo p e below _ (T1.setTop (mkF m 14 #[.val (.ref a0)] [(.int (1 : Int32))]))
    obtain ⟨fs, hr, hrun, hended, hW, hsame⟩ := X1.leave (v := some (.int (1 : Int32))) (fun h => by rw [Bd.returns] at h; cases h)
    refine OGo.ret (retN X1 hx (t := .boolean) Bd.returns (by simp) (hb hby d4_14) hr) hrun hended ⟨_, _, rfl, ?_, ⟨_, rfl⟩, hW, hsame.mono (by decide) (by decide)⟩
    show Q_rm4 Z a0 q h0 n0 _ T1.heap _
    rw [e1]
    exact ⟨congrArg (fun z => some (Value.int z)) (by show _ = (own_isG q); unfold own_isG; rw [if_pos hc6_2]), N0, rfl⟩
  · refine OGo.by (fun _ k => XS.ifYes X1.here hx rfl (pc0 := 6) (pc' := 13) rfl (hb hby d4_6) rfl ((if0 _ _).trans (flt (mt (lw_gt _ _).mp hc6_2)).2.2.2) (by decide) (by decide) k) ?_
    show OGo p e below _ (T1.setTop (mkF m 13 #[.val (.ref a0)] []))
    refine OGo.by (fun _ k => XS.iconst X1.here hx rfl (hb hby d4_13) k) ?_
    show OGo p e below _ (T1.setTop (mkF m 14 #[.val (.ref a0)] [(.int (0 : Int32))]))
    obtain ⟨fs, hr, hrun, hended, hW, hsame⟩ := X1.leave (v := some (.int (0 : Int32))) (fun h => by rw [Bd.returns] at h; cases h)
    refine OGo.ret (retN X1 hx (t := .boolean) Bd.returns (by simp) (hb hby d4_14) hr) hrun hended ⟨_, _, rfl, ?_, ⟨_, rfl⟩, hW, hsame.mono (by decide) (by decide)⟩
    show Q_rm4 Z a0 q h0 n0 _ T1.heap _
    rw [e1]
    exact ⟨congrArg (fun z => some (Value.int z)) (by show _ = (own_isG q); unfold own_isG; rw [if_neg hc6_2]), N0, rfl⟩
theorem d5_0 : decode prog_7_method_5_code 0 = .ok (.aload_n 0, 1) := by decide +kernel
theorem d5_1 : decode prog_7_method_5_code 1 = .ok (.getfield 7, 3) := by decide +kernel
theorem d5_4 : decode prog_7_method_5_code 4 = .ok (.lreturn, 1) := by decide +kernel
theorem own_pn5 : plainName "com/example/trusty_lock/trustylock/GrantReply" = true := by first | (simp [plainName, overriddenIn]; done) | decide +kernel
theorem ef_rm5 (m : MethodId) (a0 : Addr) : entryFrame m #[(.ref a0)] 1 = mkF m 0 #[.val (.ref a0)] [] := by first | (simp [entryFrame, mkF, argsToLocals, Value.category]; done) | rfl
def Q_rm5 (Z : State) (a0 : Addr) (q : Int64) (h0 : Heap) (n0 : Nat) (v : Option Value) (h : Heap) (L : List Loc) : Prop := v = some (.long q) ∧ Fr n0 L ∧ h = h0
set_option maxRecDepth 65536 in
set_option maxHeartbeats 40000000 in
theorem rm5 (l : Launch) (Z : State) (av0 : Array Value) (hw : ∀ d ∈ tables_1, d.before av0 Z = true) (ws : List Jvm.Cond) (a0 : Addr) (q : Int64) (h0 : Heap) (n0 : Nat) (Z0 : n0 ≤ h0.size) (F0 : Fld Z h0 a0 "com/example/trusty_lock/trustylock/GrantReply" "token" "J" (.long q)) :
    MetFree l (⟨"com/example/trusty_lock/trustylock/GrantReply", "token", "()J"⟩ : MethodName) (head1 (Jvm.Cond.code (⟨"com/example/trusty_lock/trustylock/GrantReply", "token", "()J"⟩ : MethodName) prog_7_method_5_code 1 (some .long) :: ws) ({ frames := 0, cells := 0, slots := 0, locals := 0 } : Room)) (fun a U => a = #[(.ref a0)] ∧ Z.Warmed39 U.vm ∧ U.heap = h0) (fun _ _ _ _ _ => True) (fun _ U o U' => ∃ v L, o = .returned v ∧ Q_rm5 Z a0 q h0 n0 v U'.heap L ∧ FrameEnd U o U' L ({ frames := 0, cells := 0, slots := 0, locals := 0 } : Room).cells ({ frames := 0, cells := 0, slots := 0, locals := 0 } : Room).slots) := by
  refine MetFree.of_bodySF (plainFor_of_name own_pn5) hisR ?_
  intro p e s m args below meth c s₁ Bd hml0 hP hK
  obtain ⟨rfl, hZ, hh⟩ := hP
  have hx := Bd.exec
  have hby := Bd.bytes
  have hml : c.maxLocals = 1 := hml0
  have hown : s.vm.findClass "com/example/trusty_lock/trustylock/GrantReply" = some m.cls := findClass_of_methodNamed Bd.named
  have hnm := (name_of_methodNamed Bd.named Bd.method).1
  have X0 : Stand p l e ({ frames := 0, cells := 0, slots := 0, locals := 0 } : Room) s m #[(.ref a0)] below meth c s₁ [] 0 0 := Stand.of_body Bd
  have e0 : s₁.heap = h0 := by rw [← hh, Bd.state]; rfl
  have N0 := Fr.nil n0
  refine OGo.by (P := fun U' o => ∃ v L, o = .returned v ∧ Q_rm5 Z a0 q h0 n0 v U'.heap L ∧ FrameEnd s o U' L ({ frames := 0, cells := 0, slots := 0, locals := 0 } : Room).cells ({ frames := 0, cells := 0, slots := 0, locals := 0 } : Room).slots) (fun t k => castTop (ef_rm5 m a0) k) ?_
  show OGo p e below _ (s₁.setTop (mkF m 0 #[.val (.ref a0)] []))
  refine OGo.by (fun _ k => XS.aloadN X0.here hx rfl (hb hby d5_0) rfl rfl k) ?_
  show OGo p e below _ (s₁.setTop (mkF m 1 #[.val (.ref a0)] [(.ref a0)]))
  obtain ⟨T1, X1, e1, st1⟩ := getF X0 hx hZ hown (host := "") (Or.inl (hw _ (List.mem_of_getElem? (i := 15) rfl))) Via.refl e0 F0 (g := (mkF m 1 #[.val (.ref a0)] [(.ref a0)])) rfl rfl (hb hby d5_1)
  refine OGo.by st1 ?_
  show OGo p e below _ (T1.setTop (mkF m 4 #[.val (.ref a0)] [(.long q)]))
  obtain ⟨fs, hr, hrun, hended, hW, hsame⟩ := X1.leave (v := some (.long q)) (fun h => by rw [Bd.returns] at h; cases h)
  refine OGo.ret (retOut X1 hx Bd.returns rfl (Or.inr (Or.inl ⟨rfl, rfl, _, rfl⟩)) (hb hby d5_4) hr) hrun hended ⟨_, _, rfl, ?_, ⟨_, rfl⟩, hW, hsame.mono (by decide) (by decide)⟩
  show Q_rm5 Z a0 q h0 n0 _ T1.heap _
  rw [e1]
  exact ⟨rfl, N0, rfl⟩
theorem d6_0 : decode prog_7_method_6_code 0 = .ok (.aload_n 0, 1) := by decide +kernel
theorem d6_1 : decode prog_7_method_6_code 1 = .ok (.getfield 13, 3) := by decide +kernel
theorem d6_4 : decode prog_7_method_6_code 4 = .ok (.areturn, 1) := by decide +kernel
theorem own_pn6 : plainName "com/example/trusty_lock/trustylock/GrantReply" = true := by first | (simp [plainName, overriddenIn]; done) | decide +kernel
theorem ef_rm6 (m : MethodId) (a0 : Addr) : entryFrame m #[(.ref a0)] 1 = mkF m 0 #[.val (.ref a0)] [] := by first | (simp [entryFrame, mkF, argsToLocals, Value.category]; done) | rfl
def Q_rm6 (Z : State) (a0 : Addr) (w : Addr) (h0 : Heap) (n0 : Nat) (v : Option Value) (h : Heap) (L : List Loc) : Prop := v = some (.ref w) ∧ Fr n0 L ∧ h = h0
set_option maxRecDepth 65536 in
set_option maxHeartbeats 40000000 in
theorem rm6 (l : Launch) (Z : State) (av0 : Array Value) (hw : ∀ d ∈ tables_1, d.before av0 Z = true) (ws : List Jvm.Cond) (a0 : Addr) (w : Addr) (h0 : Heap) (n0 : Nat) (Z0 : n0 ≤ h0.size) (F0 : Fld Z h0 a0 "com/example/trusty_lock/trustylock/GrantReply" "leaseLeft" "Ljava/time/Duration;" (.ref w)) :
    MetFree l (⟨"com/example/trusty_lock/trustylock/GrantReply", "leaseLeft", "()Ljava/time/Duration;"⟩ : MethodName) (head1 (Jvm.Cond.code (⟨"com/example/trusty_lock/trustylock/GrantReply", "leaseLeft", "()Ljava/time/Duration;"⟩ : MethodName) prog_7_method_6_code 1 (some (.object "java/time/Duration")) :: ws) ({ frames := 0, cells := 0, slots := 0, locals := 0 } : Room)) (fun a U => a = #[(.ref a0)] ∧ Z.Warmed39 U.vm ∧ U.heap = h0) (fun _ _ _ _ _ => True) (fun _ U o U' => ∃ v L, o = .returned v ∧ Q_rm6 Z a0 w h0 n0 v U'.heap L ∧ FrameEnd U o U' L ({ frames := 0, cells := 0, slots := 0, locals := 0 } : Room).cells ({ frames := 0, cells := 0, slots := 0, locals := 0 } : Room).slots) := by
  refine MetFree.of_bodySF (plainFor_of_name own_pn6) hisR ?_
  intro p e s m args below meth c s₁ Bd hml0 hP hK
  obtain ⟨rfl, hZ, hh⟩ := hP
  have hx := Bd.exec
  have hby := Bd.bytes
  have hml : c.maxLocals = 1 := hml0
  have hown : s.vm.findClass "com/example/trusty_lock/trustylock/GrantReply" = some m.cls := findClass_of_methodNamed Bd.named
  have hnm := (name_of_methodNamed Bd.named Bd.method).1
  have X0 : Stand p l e ({ frames := 0, cells := 0, slots := 0, locals := 0 } : Room) s m #[(.ref a0)] below meth c s₁ [] 0 0 := Stand.of_body Bd
  have e0 : s₁.heap = h0 := by rw [← hh, Bd.state]; rfl
  have N0 := Fr.nil n0
  refine OGo.by (P := fun U' o => ∃ v L, o = .returned v ∧ Q_rm6 Z a0 w h0 n0 v U'.heap L ∧ FrameEnd s o U' L ({ frames := 0, cells := 0, slots := 0, locals := 0 } : Room).cells ({ frames := 0, cells := 0, slots := 0, locals := 0 } : Room).slots) (fun t k => castTop (ef_rm6 m a0) k) ?_
  show OGo p e below _ (s₁.setTop (mkF m 0 #[.val (.ref a0)] []))
  refine OGo.by (fun _ k => XS.aloadN X0.here hx rfl (hb hby d6_0) rfl rfl k) ?_
  show OGo p e below _ (s₁.setTop (mkF m 1 #[.val (.ref a0)] [(.ref a0)]))
  obtain ⟨T1, X1, e1, st1⟩ := getF X0 hx hZ hown (host := "") (Or.inl (hw _ (List.mem_of_getElem? (i := 17) rfl))) Via.refl e0 F0 (g := (mkF m 1 #[.val (.ref a0)] [(.ref a0)])) rfl rfl (hb hby d6_1)
  refine OGo.by st1 ?_
  show OGo p e below _ (T1.setTop (mkF m 4 #[.val (.ref a0)] [(.ref w)]))
  obtain ⟨fs, hr, hrun, hended, hW, hsame⟩ := X1.leave (v := some (.ref w)) (fun h => by rw [Bd.returns] at h; cases h)
  refine OGo.ret (retOut X1 hx Bd.returns rfl (Or.inr (Or.inr (Or.inr (Or.inr ⟨rfl, rfl, rfl⟩)))) (hb hby d6_4) hr) hrun hended ⟨_, _, rfl, ?_, ⟨_, rfl⟩, hW, hsame.mono (by decide) (by decide)⟩
  show Q_rm6 Z a0 w h0 n0 _ T1.heap _
  rw [e1]
  exact ⟨rfl, N0, rfl⟩
theorem d7_0 : decode jdk_2316_method_21_code 0 = .ok (.aload_n 0, 1) := by decide +kernel
theorem d7_1 : decode jdk_2316_method_21_code 1 = .ok (.getfield 221, 3) := by decide +kernel
theorem d7_4 : decode jdk_2316_method_21_code 4 = .ok (.aload_n 0, 1) := by decide +kernel
theorem d7_5 : decode jdk_2316_method_21_code 5 = .ok (.getfield 224, 3) := by decide +kernel
theorem d7_8 : decode jdk_2316_method_21_code 8 = .ok (.i2l, 1) := by decide +kernel
theorem d7_9 : decode jdk_2316_method_21_code 9 = .ok (.lor, 1) := by decide +kernel
theorem d7_10 : decode jdk_2316_method_21_code 10 = .ok (.lconst 0, 1) := by decide +kernel
theorem d7_11 : decode jdk_2316_method_21_code 11 = .ok (.lcmp, 1) := by decide +kernel
theorem d7_12 : decode jdk_2316_method_21_code 12 = .ok (.ifCond .ne 7, 3) := by decide +kernel
theorem d7_15 : decode jdk_2316_method_21_code 15 = .ok (.iconst 1, 1) := by decide +kernel
theorem d7_16 : decode jdk_2316_method_21_code 16 = .ok (.goto 4, 3) := by decide +kernel
theorem d7_20 : decode jdk_2316_method_21_code 20 = .ok (.ireturn, 1) := by decide +kernel
theorem own_pn7 : plainName "java/time/Duration" = true := by first | (simp [plainName, overriddenIn]; done) | decide +kernel
theorem ef_rm7 (m : MethodId) (a0 : Addr) : entryFrame m #[(.ref a0)] 1 = mkF m 0 #[.val (.ref a0)] [] := by first | (simp [entryFrame, mkF, argsToLocals, Value.category]; done) | rfl
def Q_rm7 (Z : State) (a0 : Addr) (h0 : Heap) (n0 : Nat) (v : Option Value) (h : Heap) (L : List Loc) : Prop := v = some (.int (1 : Int32)) ∧ Fr n0 L ∧ h = h0
set_option maxRecDepth 65536 in
set_option maxHeartbeats 40000000 in
theorem rm7 (l : Launch) (Z : State) (av0 : Array Value) (hw : ∀ d ∈ tables_1, d.before av0 Z = true) (ws : List Jvm.Cond) (a0 : Addr) (h0 : Heap) (n0 : Nat) (Z0 : n0 ≤ h0.size) (F0 : Fld Z h0 a0 "java/time/Duration" "seconds" "J" (.long (0 : Int64))) (F1 : Fld Z h0 a0 "java/time/Duration" "nanos" "I" (.int (0 : Int32))) :
    MetFree l (⟨"java/time/Duration", "isZero", "()Z"⟩ : MethodName) (head1 (Jvm.Cond.code (⟨"java/time/Duration", "isZero", "()Z"⟩ : MethodName) jdk_2316_method_21_code 1 (some .boolean) :: ws) ({ frames := 0, cells := 0, slots := 0, locals := 0 } : Room)) (fun a U => a = #[(.ref a0)] ∧ Z.Warmed39 U.vm ∧ U.heap = h0) (fun _ _ _ _ _ => True) (fun _ U o U' => ∃ v L, o = .returned v ∧ Q_rm7 Z a0 h0 n0 v U'.heap L ∧ FrameEnd U o U' L ({ frames := 0, cells := 0, slots := 0, locals := 0 } : Room).cells ({ frames := 0, cells := 0, slots := 0, locals := 0 } : Room).slots) := by
  refine MetFree.of_bodySF (plainFor_of_name own_pn7) hisR ?_
  intro p e s m args below meth c s₁ Bd hml0 hP hK
  obtain ⟨rfl, hZ, hh⟩ := hP
  have hx := Bd.exec
  have hby := Bd.bytes
  have hml : c.maxLocals = 1 := hml0
  have hown : s.vm.findClass "java/time/Duration" = some m.cls := findClass_of_methodNamed Bd.named
  have hnm := (name_of_methodNamed Bd.named Bd.method).1
  have X0 : Stand p l e ({ frames := 0, cells := 0, slots := 0, locals := 0 } : Room) s m #[(.ref a0)] below meth c s₁ [] 0 0 := Stand.of_body Bd
  have e0 : s₁.heap = h0 := by rw [← hh, Bd.state]; rfl
  have N0 := Fr.nil n0
  refine OGo.by (P := fun U' o => ∃ v L, o = .returned v ∧ Q_rm7 Z a0 h0 n0 v U'.heap L ∧ FrameEnd s o U' L ({ frames := 0, cells := 0, slots := 0, locals := 0 } : Room).cells ({ frames := 0, cells := 0, slots := 0, locals := 0 } : Room).slots) (fun t k => castTop (ef_rm7 m a0) k) ?_
  show OGo p e below _ (s₁.setTop (mkF m 0 #[.val (.ref a0)] []))
  refine OGo.by (fun _ k => XS.aloadN X0.here hx rfl (hb hby d7_0) rfl rfl k) ?_
  show OGo p e below _ (s₁.setTop (mkF m 1 #[.val (.ref a0)] [(.ref a0)]))
  obtain ⟨T1, X1, e1, st1⟩ := getF X0 hx hZ hown (host := "") (Or.inl (hw _ (List.mem_of_getElem? (i := 39) rfl))) Via.refl e0 F0 (g := (mkF m 1 #[.val (.ref a0)] [(.ref a0)])) rfl rfl (hb hby d7_1)
  refine OGo.by st1 ?_
  show OGo p e below _ (T1.setTop (mkF m 4 #[.val (.ref a0)] [(.long (0 : Int64))]))
  refine OGo.by (fun _ k => XS.aloadN X1.here hx rfl (hb hby d7_4) rfl rfl k) ?_
  show OGo p e below _ (T1.setTop (mkF m 5 #[.val (.ref a0)] [(.ref a0), (.long (0 : Int64))]))
  obtain ⟨T2, X2, e2, st2⟩ := getF X1 hx hZ hown (host := "") (Or.inl (hw _ (List.mem_of_getElem? (i := 41) rfl))) Via.refl e1 F1 (g := (mkF m 5 #[.val (.ref a0)] [(.ref a0), (.long (0 : Int64))])) rfl rfl (hb hby d7_5)
  refine OGo.by st2 ?_
  show OGo p e below _ (T2.setTop (mkF m 8 #[.val (.ref a0)] [(.int (0 : Int32)), (.long (0 : Int64))]))
  refine OGo.by (fun _ k => XS.i2l X2.here hx rfl (hb hby d7_8) rfl k) ?_
  show OGo p e below _ (T2.setTop (mkF m 9 #[.val (.ref a0)] [(.long ((0 : Int32).toInt64)), (.long (0 : Int64))]))
  refine OGo.by (fun _ k => XS.lor X2.here hx rfl (hb hby d7_9) rfl k) ?_
  show OGo p e below _ (T2.setTop (mkF m 10 #[.val (.ref a0)] [(.long ((0 : Int64) ||| ((0 : Int32).toInt64)))]))
  refine OGo.by (fun _ k => XS.lconst X2.here hx rfl (hb hby d7_10) k) ?_
  show OGo p e below _ (T2.setTop (mkF m 11 #[.val (.ref a0)] [(.long (0 : Int64)), (.long ((0 : Int64) ||| ((0 : Int32).toInt64)))]))
  refine OGo.by (fun _ k => XS.lcmp X2.here hx rfl (hb hby d7_11) rfl k) ?_
  show OGo p e below _ (T2.setTop (mkF m 12 #[.val (.ref a0)] [(.int (lcmpW ((0 : Int64) ||| ((0 : Int32).toInt64)) (0 : Int64)))]))
  refine OGo.by (fun _ k => XS.ifNo X2.here hx rfl (hb hby d7_12) rfl ((if0 _ _).trans (teq ((lw_eq _ _).mpr (by decide : ((0 : Int64) ||| ((0 : Int32).toInt64)) = (0 : Int64)))).2) k) ?_
  show OGo p e below _ (T2.setTop (mkF m 15 #[.val (.ref a0)] []))
  refine OGo.by (fun _ k => XS.iconst X2.here hx rfl (hb hby d7_15) k) ?_
  show OGo p e below _ (T2.setTop (mkF m 16 #[.val (.ref a0)] [(.int (1 : Int32))]))
  refine OGo.by (fun _ k => XS.goto X2.here hx rfl (pc0 := 16) (pc' := 20) rfl (hb hby d7_16) (by decide) (by decide) k) ?_
  show OGo p e below _ (T2.setTop (mkF m 20 #[.val (.ref a0)] [(.int (1 : Int32))]))
  obtain ⟨fs, hr, hrun, hended, hW, hsame⟩ := X2.leave (v := some (.int (1 : Int32))) (fun h => by rw [Bd.returns] at h; cases h)
  refine OGo.ret (retN X2 hx (t := .boolean) Bd.returns (by simp) (hb hby d7_20) hr) hrun hended ⟨_, _, rfl, ?_, ⟨_, rfl⟩, hW, hsame.mono (by decide) (by decide)⟩
  show Q_rm7 Z a0 h0 n0 _ T2.heap _
  rw [e2]
  exact ⟨rfl, N0, rfl⟩
theorem own_pos (x : Int64) (h : ¬ (x &&& (9223372036854775807 : Int64)) = (0 : Int64)) : (0 : Int64) < (x &&& (9223372036854775807 : Int64)) := by
  have e := c_maskL x (9223372036854775807 : Int64) 63 (by decide) (by decide)
  have h0 : (x &&& (9223372036854775807 : Int64)).toInt ≠ 0 := fun q => h (Int64.toInt_inj.mp q)
  rw [Int64.lt_iff_toInt_lt]
  have : ((0 : Int64)).toInt = 0 := rfl
  have h2 : 0 ≤ x.toInt % ((2 ^ 63 : Nat) : Int) := Int.emod_nonneg _ (by decide)
  omega
theorem own_ge1 {x : Int64} (h : (0 : Int64) < x) : ¬ x < (1 : Int64) := by
  rw [Int64.lt_iff_toInt_lt] at h ⊢
  have : ((0 : Int64)).toInt = 0 := rfl
  have : ((1 : Int64)).toInt = 1 := rfl
  omega
theorem own_isG1 {x : Int64} (h : (0 : Int64) < x) : own_isG x = (1 : Int32) := by unfold own_isG; rw [if_pos h]
theorem own_isG1' {x : Int64} (h : (0 : Int64) < x) : ¬ own_isG x = (0 : Int32) := by rw [own_isG1 h]; decide
theorem own_pd1 : parseMethodDescriptor "(J)Lcom/example/trusty_lock/trustylock/GrantReply;" = some ⟨[.long], some (.object "com/example/trusty_lock/trustylock/GrantReply")⟩ := by decide +kernel
theorem own_pd2 : parseMethodDescriptor "()Z" = some ⟨[], some .boolean⟩ := by decide +kernel
theorem own_pd3 : parseMethodDescriptor "()J" = some ⟨[], some .long⟩ := by decide +kernel
theorem own_pd4 : parseMethodDescriptor "()Ljava/time/Duration;" = some ⟨[], some (.object "java/time/Duration")⟩ := by decide +kernel
theorem own_pn0 : plainName "com/example/trusty_lock/trustylock/GrantReplyGrantedPinLaw" = true := by first | (simp [plainName, overriddenIn]; done) | decide +kernel
theorem ef_rm0 (m : MethodId) (i0 : Int64) : entryFrame m #[(.long i0)] maxLocals = mkF m 0 #[.val (.long i0), .second, .unset, .unset, .unset] [] := by first | (simp [entryFrame, mkF, argsToLocals, Value.category, maxLocals]; done) | rfl
def Q_rm0 (Z : State) (i0 : Int64) (w : Addr) (h0 : Heap) (n0 : Nat) (v : Option Value) (h : Heap) (L : List Loc) : Prop := v = some (.int 1) ∧ Fr n0 L
set_option maxRecDepth 65536 in
set_option maxHeartbeats 40000000 in
theorem rm0 (l : Launch) (Z : State) (av0 : Array Value) (hw : ∀ d ∈ tables_1, d.before av0 Z = true) (ws : List Jvm.Cond) (i0 : Int64) (w : Addr) (h0 : Heap) (n0 : Nat) (Z0 : n0 ≤ h0.size) (S0 : Sta Z h0 "java/time/Duration" "ZERO" "Ljava/time/Duration;" (.ref w)) (E_w : Exa Z h0 w "java/time/Duration") (F_s : Fld Z h0 w "java/time/Duration" "seconds" "J" (.long (0 : Int64))) (F_n : Fld Z h0 w "java/time/Duration" "nanos" "I" (.int (0 : Int32))) :
    MetFree l x (head1 (Jvm.Cond.code x code maxLocals ret :: ws) room_1) (fun a U => a = #[(.long i0)] ∧ Z.Warmed39 U.vm ∧ U.heap = h0) (fun _ _ _ _ _ => True) (fun _ U o U' => ∃ v L, o = .returned v ∧ Q_rm0 Z i0 w h0 n0 v U'.heap L ∧ FrameEnd U o U' L room_1.cells room_1.slots) := by
  refine MetFree.of_bodySF (plainFor_of_name own_pn0) hisR ?_
  intro p e s m args below meth c s₁ Bd hml0 hP hK
  obtain ⟨rfl, hZ, hh⟩ := hP
  have hx := Bd.exec
  have hby := Bd.bytes
  have hml : c.maxLocals = 5 := hml0
  have hown : s.vm.findClass "com/example/trusty_lock/trustylock/GrantReplyGrantedPinLaw" = some m.cls := findClass_of_methodNamed Bd.named
  have hnm := (name_of_methodNamed Bd.named Bd.method).1
  have X0 : Stand p l e room_1 s m #[(.long i0)] below meth c s₁ [] 0 0 := Stand.of_body Bd
  have e0 : s₁.heap = h0 := by rw [← hh, Bd.state]; rfl
  have N0 := Fr.nil n0
  refine OGo.by (P := fun U' o => ∃ v L, o = .returned v ∧ Q_rm0 Z i0 w h0 n0 v U'.heap L ∧ FrameEnd s o U' L room_1.cells room_1.slots) (fun t k => castTop (ef_rm0 m i0) k) ?_
  show OGo p e below _ (s₁.setTop (mkF m 0 #[.val (.long i0), .second, .unset, .unset, .unset] []))
  refine OGo.by (fun _ k => XS.lloadN X0.here hx rfl (hb hby at_0) rfl k) ?_
  show OGo p e below _ (s₁.setTop (mkF m 1 #[.val (.long i0), .second, .unset, .unset, .unset] [(.long i0)]))
  refine OGo.by (X0.ldc2Long hx hown (mvT hZ (hw _ (List.mem_of_getElem? (i := 0) rfl))) (g := (mkF m 1 #[.val (.long i0), .second, .unset, .unset, .unset] [(.long i0)])) rfl (hb hby at_1)) ?_
  show OGo p e below _ (s₁.setTop (mkF m 4 #[.val (.long i0), .second, .unset, .unset, .unset] [(.long (9223372036854775807 : Int64)), (.long i0)]))
  refine OGo.by (fun _ k => XS.land X0.here hx rfl (hb hby at_4) rfl k) ?_
  show OGo p e below _ (s₁.setTop (mkF m 5 #[.val (.long i0), .second, .unset, .unset, .unset] [(.long (i0 &&& (9223372036854775807 : Int64)))]))
  refine OGo.by (fun _ k => XS.lstoreN X0.here hx rfl (hb hby at_5) rfl (l' := #[.val (.long i0), .second, .val (.long (i0 &&& (9223372036854775807 : Int64))), .second, .unset]) rfl k) ?_
  show OGo p e below _ (s₁.setTop (mkF m 6 #[.val (.long i0), .second, .val (.long (i0 &&& (9223372036854775807 : Int64))), .second, .unset] []))
  refine OGo.by (fun _ k => XS.lloadN X0.here hx rfl (hb hby at_6) rfl k) ?_
  show OGo p e below _ (s₁.setTop (mkF m 7 #[.val (.long i0), .second, .val (.long (i0 &&& (9223372036854775807 : Int64))), .second, .unset] [(.long (i0 &&& (9223372036854775807 : Int64)))]))
  refine OGo.by (fun _ k => XS.lconst X0.here hx rfl (hb hby at_7) k) ?_
  show OGo p e below _ (s₁.setTop (mkF m 8 #[.val (.long i0), .second, .val (.long (i0 &&& (9223372036854775807 : Int64))), .second, .unset] [(.long (0 : Int64)), (.long (i0 &&& (9223372036854775807 : Int64)))]))
  refine OGo.by (fun _ k => XS.lcmp X0.here hx rfl (hb hby at_8) rfl k) ?_
  show OGo p e below _ (s₁.setTop (mkF m 9 #[.val (.long i0), .second, .val (.long (i0 &&& (9223372036854775807 : Int64))), .second, .unset] [(.int (lcmpW (i0 &&& (9223372036854775807 : Int64)) (0 : Int64)))]))
  by_cases hc9_1 : (i0 &&& (9223372036854775807 : Int64)) = (0 : Int64)
  · refine OGo.by (fun _ k => XS.ifNo X0.here hx rfl (hb hby at_9) rfl ((if0 _ _).trans (teq ((lw_eq _ _).mpr hc9_1)).2) k) ?_
    show OGo p e below _ (s₁.setTop (mkF m 12 #[.val (.long i0), .second, .val (.long (i0 &&& (9223372036854775807 : Int64))), .second, .unset] []))
    refine OGo.by (fun _ k => XS.lconst X0.here hx rfl (hb hby at_12) k) ?_
    show OGo p e below _ (s₁.setTop (mkF m 13 #[.val (.long i0), .second, .val (.long (i0 &&& (9223372036854775807 : Int64))), .second, .unset] [(.long (1 : Int64))]))
    refine OGo.by (fun _ k => XS.lstoreN X0.here hx rfl (hb hby at_13) rfl (l' := #[.val (.long i0), .second, .val (.long (1 : Int64)), .second, .unset]) rfl k) ?_
    show OGo p e below _ (s₁.setTop (mkF m 14 #[.val (.long i0), .second, .val (.long (1 : Int64)), .second, .unset] []))
    refine OGo.by (fun _ k => XS.lloadN X0.here hx rfl (hb hby at_14) rfl k) ?_
    show OGo p e below _ (s₁.setTop (mkF m 15 #[.val (.long i0), .second, .val (.long (1 : Int64)), .second, .unset] [(.long (1 : Int64))]))
    obtain ⟨_, _, ⟨T2, L2, k2, n2⟩, -, X2, ⟨Lc2, hQ2, l2, y2, z2⟩, st2⟩ := Jvm.LawKit.callS X0 hx (y := (⟨"com/example/trusty_lock/trustylock/GrantReply", "granted", "(J)Lcom/example/trusty_lock/trustylock/GrantReply;"⟩ : MethodName)) hown (mvT hZ (hw _ (List.mem_of_getElem? (i := 1) rfl))) (mvT hZ (hw _ (List.mem_of_getElem? (i := 2) rfl))) (mvT hZ (hw _ (List.mem_of_getElem? (i := 3) rfl))) (mvT hZ (hw _ (List.mem_of_getElem? (i := 4) rfl))) (by decide) (backOf (W := 0) (rm1 l Z av0 hw [] (1 : Int64) w h0 n0 Z0 S0 (own_ge1 (by decide : (0 : Int64) < (1 : Int64)))) hZ (hw _ (List.mem_of_getElem? (i := 4) rfl)) (hw _ (List.mem_of_getElem? (i := 3) rfl)) (by decide) (by decide)) (g := (mkF m 15 #[.val (.long i0), .second, .val (.long (1 : Int64)), .second, .unset] [(.long (1 : Int64))])) rfl (by rw [hml]; rfl) (argsL := [(.long (1 : Int64))]) (rest := []) (lenOf own_pd1 rfl) rfl (by show 2 * 0 + _ ≤ _; exact Nat.le_of_eq rfl) (hb hby at_15) (fun _ _ => ⟨rfl, e0, (by decide : 0 + 1 ≤ _), (by decide : 0 + 2 ≤ _)⟩)
    dsimp only [Pt.U, Pt.locs, Pt.cells, Pt.slots] at X2 l2 y2 z2 st2 hQ2
    subst l2 y2 z2
    obtain ⟨b_2, rfl, N2q, Kc2, G2_0, G2_1, G2_2, G2_3, G2_4⟩ := hQ2
    have N2 := Fr.app N0 N2q
    have ne_w_b_2 : w ≠ b_2 := Nat.ne_of_lt (Nat.lt_of_lt_of_le E_w.lt G2_0)
    have g_b_2 : n0 ≤ b_2 := Nat.le_trans Z0 G2_0
    have sz_b_2 : h0.size ≤ b_2 := Nat.le_trans (Nat.le_refl _) G2_0
    have K2 : Keep h0 T2.heap [] := ((Keep.refl h0 [])).trans Kc2 (fun x hx => nomatch hx)
    refine OGo.by st2 ?_
    show OGo p e below _ (T2.setTop (mkF m 18 #[.val (.long i0), .second, .val (.long (1 : Int64)), .second, .unset] [(.ref b_2)]))
    refine OGo.by (fun _ k => XS.astore X2.here hx rfl (hb hby at_18) rfl rfl (l' := #[.val (.long i0), .second, .val (.long (1 : Int64)), .second, .val (.ref b_2)]) rfl k) ?_
    show OGo p e below _ (T2.setTop (mkF m 20 #[.val (.long i0), .second, .val (.long (1 : Int64)), .second, .val (.ref b_2)] []))
    refine OGo.by (fun _ k => XS.aload X2.here hx rfl (hb hby at_20) rfl rfl k) ?_
    show OGo p e below _ (T2.setTop (mkF m 22 #[.val (.long i0), .second, .val (.long (1 : Int64)), .second, .val (.ref b_2)] [(.ref b_2)]))
    refine OGo.by (fun _ k => XS.ifnonnullYes X2.here hx rfl (pc0 := 22) (pc' := 27) rfl (hb hby at_22) rfl (by decide) (by decide) k) ?_
    show OGo p e below _ (T2.setTop (mkF m 27 #[.val (.long i0), .second, .val (.long (1 : Int64)), .second, .val (.ref b_2)] []))
    refine OGo.by (fun _ k => XS.aload X2.here hx rfl (hb hby at_27) rfl rfl k) ?_
    show OGo p e below _ (T2.setTop (mkF m 29 #[.val (.long i0), .second, .val (.long (1 : Int64)), .second, .val (.ref b_2)] [(.ref b_2)]))
    obtain ⟨cq3, kq3, q3a, q3b, q3c⟩ := isOf hZ rfl G2_2
    obtain ⟨_, _, ⟨T3, L3, k3, n3⟩, -, X3, ⟨Lc3, hQ3, l3, y3, z3⟩, st3⟩ := X2.virtualBack hx (y := (⟨"com/example/trusty_lock/trustylock/GrantReply", "isGranted", "()Z"⟩ : MethodName)) (z := (⟨"com/example/trusty_lock/trustylock/GrantReply", "isGranted", "()Z"⟩ : MethodName)) hown (mvT hZ (hw _ (List.mem_of_getElem? (i := 19) rfl))) (mvT hZ (hw _ (List.mem_of_getElem? (i := 20) rfl))) (notFace_of_selects (args := #[]) (mvT hZ (hw _ (List.mem_of_getElem? (i := 22) rfl)))) (mvT hZ (hw _ (List.mem_of_getElem? (i := 22) rfl))) (mvT hZ (hw _ (List.mem_of_getElem? (i := 21) rfl))) (by decide) (backOf (W := 0) (rm4 l Z av0 hw [] b_2 (1 : Int64) T2.heap n0 (Nat.le_trans Z0 K2.1) G2_3) hZ (hw _ (List.mem_of_getElem? (i := 23) rfl)) (hw _ (List.mem_of_getElem? (i := 3) rfl)) (by decide) (by decide)) q3a q3c (g := (mkF m 29 #[.val (.long i0), .second, .val (.long (1 : Int64)), .second, .val (.ref b_2)] [(.ref b_2)])) rfl (by rw [hml]; rfl) (Steps.refl _) (argsL := []) (rest := []) (lenOf own_pd2 rfl) rfl (by show 2 * 0 + _ ≤ _; exact Nat.le_of_eq rfl) (hb hby at_29) (fun _ _ => ⟨rfl, rfl, (by decide : 1 + 0 ≤ _), (by decide : 2 + 0 ≤ _)⟩)
    dsimp only [Pt.U, Pt.locs, Pt.cells, Pt.slots] at X3 l3 y3 z3 st3 hQ3
    subst l3 y3 z3
    obtain ⟨rfl, N3q, e3⟩ := hQ3
    have N3 := Fr.app N2 N3q
    refine OGo.of st3 ?_
    show OGo p e below _ (T3.setTop (mkF m 32 #[.val (.long i0), .second, .val (.long (1 : Int64)), .second, .val (.ref b_2)] [(.int (own_isG (1 : Int64)))]))
    refine OGo.by (fun _ k => XS.ifYes X3.here hx rfl (pc0 := 32) (pc' := 37) rfl (hb hby at_32) rfl ((if0 _ _).trans (feq (own_isG1' (by decide : (0 : Int64) < (1 : Int64)))).2) (by decide) (by decide) k) ?_
    show OGo p e below _ (T3.setTop (mkF m 37 #[.val (.long i0), .second, .val (.long (1 : Int64)), .second, .val (.ref b_2)] []))
    refine OGo.by (fun _ k => XS.aload X3.here hx rfl (hb hby at_37) rfl rfl k) ?_
    show OGo p e below _ (T3.setTop (mkF m 39 #[.val (.long i0), .second, .val (.long (1 : Int64)), .second, .val (.ref b_2)] [(.ref b_2)]))
    obtain ⟨cq4, kq4, q4a, q4b, q4c⟩ := isOf hZ e3 G2_2
    obtain ⟨_, _, ⟨T4, L4, k4, n4⟩, -, X4, ⟨Lc4, hQ4, l4, y4, z4⟩, st4⟩ := X3.virtualBack hx (y := (⟨"com/example/trusty_lock/trustylock/GrantReply", "token", "()J"⟩ : MethodName)) (z := (⟨"com/example/trusty_lock/trustylock/GrantReply", "token", "()J"⟩ : MethodName)) hown (mvT hZ (hw _ (List.mem_of_getElem? (i := 24) rfl))) (mvT hZ (hw _ (List.mem_of_getElem? (i := 25) rfl))) (notFace_of_selects (args := #[]) (mvT hZ (hw _ (List.mem_of_getElem? (i := 27) rfl)))) (mvT hZ (hw _ (List.mem_of_getElem? (i := 27) rfl))) (mvT hZ (hw _ (List.mem_of_getElem? (i := 26) rfl))) (by decide) (backOf (W := 0) (rm5 l Z av0 hw [] b_2 (1 : Int64) T2.heap n0 (Nat.le_trans Z0 K2.1) G2_3) hZ (hw _ (List.mem_of_getElem? (i := 28) rfl)) (hw _ (List.mem_of_getElem? (i := 3) rfl)) (by decide) (by decide)) q4a q4c (g := (mkF m 39 #[.val (.long i0), .second, .val (.long (1 : Int64)), .second, .val (.ref b_2)] [(.ref b_2)])) rfl (by rw [hml]; rfl) (Steps.refl _) (argsL := []) (rest := []) (lenOf own_pd3 rfl) rfl (by show 2 * 0 + _ ≤ _; exact Nat.le_of_eq rfl) (hb hby at_39) (fun _ _ => ⟨rfl, e3, (by decide : 1 + 0 ≤ _), (by decide : 2 + 0 ≤ _)⟩)
    dsimp only [Pt.U, Pt.locs, Pt.cells, Pt.slots] at X4 l4 y4 z4 st4 hQ4
    subst l4 y4 z4
    obtain ⟨rfl, N4q, e4⟩ := hQ4
    have N4 := Fr.app N3 N4q
    refine OGo.of st4 ?_
    show OGo p e below _ (T4.setTop (mkF m 42 #[.val (.long i0), .second, .val (.long (1 : Int64)), .second, .val (.ref b_2)] [(.long (1 : Int64))]))
    refine OGo.by (fun _ k => XS.lloadN X4.here hx rfl (hb hby at_42) rfl k) ?_
    show OGo p e below _ (T4.setTop (mkF m 43 #[.val (.long i0), .second, .val (.long (1 : Int64)), .second, .val (.ref b_2)] [(.long (1 : Int64)), (.long (1 : Int64))]))
    refine OGo.by (fun _ k => XS.lcmp X4.here hx rfl (hb hby at_43) rfl k) ?_
    show OGo p e below _ (T4.setTop (mkF m 44 #[.val (.long i0), .second, .val (.long (1 : Int64)), .second, .val (.ref b_2)] [(.int (lcmpW (1 : Int64) (1 : Int64)))]))
    refine OGo.by (fun _ k => XS.ifYes X4.here hx rfl (pc0 := 44) (pc' := 49) rfl (hb hby at_44) rfl ((if0 _ _).trans (teq ((lw_eq _ _).mpr (rfl : (1 : Int64) = (1 : Int64)))).1) (by decide) (by decide) k) ?_
    show OGo p e below _ (T4.setTop (mkF m 49 #[.val (.long i0), .second, .val (.long (1 : Int64)), .second, .val (.ref b_2)] []))
    refine OGo.by (fun _ k => XS.aload X4.here hx rfl (hb hby at_49) rfl rfl k) ?_
    show OGo p e below _ (T4.setTop (mkF m 51 #[.val (.long i0), .second, .val (.long (1 : Int64)), .second, .val (.ref b_2)] [(.ref b_2)]))
    obtain ⟨cq5, kq5, q5a, q5b, q5c⟩ := isOf hZ e4 G2_2
    obtain ⟨_, _, ⟨T5, L5, k5, n5⟩, -, X5, ⟨Lc5, hQ5, l5, y5, z5⟩, st5⟩ := X4.virtualBack hx (y := (⟨"com/example/trusty_lock/trustylock/GrantReply", "leaseLeft", "()Ljava/time/Duration;"⟩ : MethodName)) (z := (⟨"com/example/trusty_lock/trustylock/GrantReply", "leaseLeft", "()Ljava/time/Duration;"⟩ : MethodName)) hown (mvT hZ (hw _ (List.mem_of_getElem? (i := 29) rfl))) (mvT hZ (hw _ (List.mem_of_getElem? (i := 30) rfl))) (notFace_of_selects (args := #[]) (mvT hZ (hw _ (List.mem_of_getElem? (i := 32) rfl)))) (mvT hZ (hw _ (List.mem_of_getElem? (i := 32) rfl))) (mvT hZ (hw _ (List.mem_of_getElem? (i := 31) rfl))) (by decide) (backOf (W := 0) (rm6 l Z av0 hw [] b_2 w T2.heap n0 (Nat.le_trans Z0 K2.1) G2_4) hZ (hw _ (List.mem_of_getElem? (i := 33) rfl)) (hw _ (List.mem_of_getElem? (i := 3) rfl)) (by decide) (by decide)) q5a q5c (g := (mkF m 51 #[.val (.long i0), .second, .val (.long (1 : Int64)), .second, .val (.ref b_2)] [(.ref b_2)])) rfl (by rw [hml]; rfl) (Steps.refl _) (argsL := []) (rest := []) (lenOf own_pd4 rfl) rfl (by show 2 * 0 + _ ≤ _; exact Nat.le_of_eq rfl) (hb hby at_51) (fun _ _ => ⟨rfl, e4, (by decide : 1 + 0 ≤ _), (by decide : 2 + 0 ≤ _)⟩)
    dsimp only [Pt.U, Pt.locs, Pt.cells, Pt.slots] at X5 l5 y5 z5 st5 hQ5
    subst l5 y5 z5
    obtain ⟨rfl, N5q, e5⟩ := hQ5
    have N5 := Fr.app N4 N5q
    refine OGo.of st5 ?_
    show OGo p e below _ (T5.setTop (mkF m 54 #[.val (.long i0), .second, .val (.long (1 : Int64)), .second, .val (.ref b_2)] [(.ref w)]))
    refine OGo.by (fun _ k => XS.ifnonnullYes X5.here hx rfl (pc0 := 54) (pc' := 59) rfl (hb hby at_54) rfl (by decide) (by decide) k) ?_
    show OGo p e below _ (T5.setTop (mkF m 59 #[.val (.long i0), .second, .val (.long (1 : Int64)), .second, .val (.ref b_2)] []))
    refine OGo.by (fun _ k => XS.aload X5.here hx rfl (hb hby at_59) rfl rfl k) ?_
    show OGo p e below _ (T5.setTop (mkF m 61 #[.val (.long i0), .second, .val (.long (1 : Int64)), .second, .val (.ref b_2)] [(.ref b_2)]))
    obtain ⟨cq6, kq6, q6a, q6b, q6c⟩ := isOf hZ e5 G2_2
    obtain ⟨_, _, ⟨T6, L6, k6, n6⟩, -, X6, ⟨Lc6, hQ6, l6, y6, z6⟩, st6⟩ := X5.virtualBack hx (y := (⟨"com/example/trusty_lock/trustylock/GrantReply", "leaseLeft", "()Ljava/time/Duration;"⟩ : MethodName)) (z := (⟨"com/example/trusty_lock/trustylock/GrantReply", "leaseLeft", "()Ljava/time/Duration;"⟩ : MethodName)) hown (mvT hZ (hw _ (List.mem_of_getElem? (i := 29) rfl))) (mvT hZ (hw _ (List.mem_of_getElem? (i := 30) rfl))) (notFace_of_selects (args := #[]) (mvT hZ (hw _ (List.mem_of_getElem? (i := 32) rfl)))) (mvT hZ (hw _ (List.mem_of_getElem? (i := 32) rfl))) (mvT hZ (hw _ (List.mem_of_getElem? (i := 31) rfl))) (by decide) (backOf (W := 0) (rm6 l Z av0 hw [] b_2 w T2.heap n0 (Nat.le_trans Z0 K2.1) G2_4) hZ (hw _ (List.mem_of_getElem? (i := 33) rfl)) (hw _ (List.mem_of_getElem? (i := 3) rfl)) (by decide) (by decide)) q6a q6c (g := (mkF m 61 #[.val (.long i0), .second, .val (.long (1 : Int64)), .second, .val (.ref b_2)] [(.ref b_2)])) rfl (by rw [hml]; rfl) (Steps.refl _) (argsL := []) (rest := []) (lenOf own_pd4 rfl) rfl (by show 2 * 0 + _ ≤ _; exact Nat.le_of_eq rfl) (hb hby at_61) (fun _ _ => ⟨rfl, e5, (by decide : 1 + 0 ≤ _), (by decide : 2 + 0 ≤ _)⟩)
    dsimp only [Pt.U, Pt.locs, Pt.cells, Pt.slots] at X6 l6 y6 z6 st6 hQ6
    subst l6 y6 z6
    obtain ⟨rfl, N6q, e6⟩ := hQ6
    have N6 := Fr.app N5 N6q
    refine OGo.of st6 ?_
    show OGo p e below _ (T6.setTop (mkF m 64 #[.val (.long i0), .second, .val (.long (1 : Int64)), .second, .val (.ref b_2)] [(.ref w)]))
    have f8 : Fld Z T2.heap w "java/time/Duration" "seconds" "J" (.long (0 : Int64)) := (F_s.keep Kc2 nin0)
    have f9 : Fld Z T2.heap w "java/time/Duration" "nanos" "I" (.int (0 : Int32)) := (F_n.keep Kc2 nin0)
    have f10 : Exa Z T2.heap w "java/time/Duration" := (E_w.keep Kc2)
    obtain ⟨cq7, kq7, q7a, q7b, q7c⟩ := isOf hZ e6 f10
    obtain ⟨_, _, ⟨T7, L7, k7, n7⟩, -, X7, ⟨Lc7, hQ7, l7, y7, z7⟩, st7⟩ := X6.virtualBack hx (y := (⟨"java/time/Duration", "isZero", "()Z"⟩ : MethodName)) (z := (⟨"java/time/Duration", "isZero", "()Z"⟩ : MethodName)) hown (mvT hZ (hw _ (List.mem_of_getElem? (i := 34) rfl))) (mvT hZ (hw _ (List.mem_of_getElem? (i := 35) rfl))) (notFace_of_selects (args := #[]) (mvT hZ (hw _ (List.mem_of_getElem? (i := 37) rfl)))) (mvT hZ (hw _ (List.mem_of_getElem? (i := 37) rfl))) (mvT hZ (hw _ (List.mem_of_getElem? (i := 36) rfl))) (by decide) (backOf (W := 0) (rm7 l Z av0 hw [] w T2.heap n0 (Nat.le_trans Z0 K2.1) f8 f9) hZ (hw _ (List.mem_of_getElem? (i := 38) rfl)) (hw _ (List.mem_of_getElem? (i := 8) rfl)) (by decide) (by decide)) q7a q7c (g := (mkF m 64 #[.val (.long i0), .second, .val (.long (1 : Int64)), .second, .val (.ref b_2)] [(.ref w)])) rfl (by rw [hml]; rfl) (Steps.refl _) (argsL := []) (rest := []) (lenOf own_pd2 rfl) rfl (by show 2 * 0 + _ ≤ _; exact Nat.le_of_eq rfl) (hb hby at_64) (fun _ _ => ⟨rfl, e6, (by decide : 1 + 0 ≤ _), (by decide : 2 + 0 ≤ _)⟩)
    dsimp only [Pt.U, Pt.locs, Pt.cells, Pt.slots] at X7 l7 y7 z7 st7 hQ7
    subst l7 y7 z7
    obtain ⟨rfl, N7q, e7⟩ := hQ7
    have N7 := Fr.app N6 N7q
    refine OGo.of st7 ?_
    show OGo p e below _ (T7.setTop (mkF m 67 #[.val (.long i0), .second, .val (.long (1 : Int64)), .second, .val (.ref b_2)] [(.int (1 : Int32))]))
    obtain ⟨fs, hr, hrun, hended, hW, hsame⟩ := X7.leave (v := some (.int (1 : Int32))) (fun h => by rw [Bd.returns] at h; cases h)
    refine OGo.ret (retN X7 hx (t := .boolean) Bd.returns (by simp) (hb hby at_67) hr) hrun hended ⟨_, _, rfl, ?_, ⟨_, rfl⟩, hW, hsame.mono (by decide) (by decide)⟩
    show Q_rm0 Z i0 w h0 n0 _ T7.heap _
    rw [e7]
    exact ⟨rfl, N7⟩
  · refine OGo.by (fun _ k => XS.ifYes X0.here hx rfl (pc0 := 9) (pc' := 14) rfl (hb hby at_9) rfl ((if0 _ _).trans (feq (mt (lw_eq _ _).mp hc9_1)).2) (by decide) (by decide) k) ?_
    show OGo p e below _ (s₁.setTop (mkF m 14 #[.val (.long i0), .second, .val (.long (i0 &&& (9223372036854775807 : Int64))), .second, .unset] []))
    refine OGo.by (fun _ k => XS.lloadN X0.here hx rfl (hb hby at_14) rfl k) ?_
    show OGo p e below _ (s₁.setTop (mkF m 15 #[.val (.long i0), .second, .val (.long (i0 &&& (9223372036854775807 : Int64))), .second, .unset] [(.long (i0 &&& (9223372036854775807 : Int64)))]))
    obtain ⟨_, _, ⟨T11, L11, k11, n11⟩, -, X11, ⟨Lc11, hQ11, l11, y11, z11⟩, st11⟩ := Jvm.LawKit.callS X0 hx (y := (⟨"com/example/trusty_lock/trustylock/GrantReply", "granted", "(J)Lcom/example/trusty_lock/trustylock/GrantReply;"⟩ : MethodName)) hown (mvT hZ (hw _ (List.mem_of_getElem? (i := 1) rfl))) (mvT hZ (hw _ (List.mem_of_getElem? (i := 2) rfl))) (mvT hZ (hw _ (List.mem_of_getElem? (i := 3) rfl))) (mvT hZ (hw _ (List.mem_of_getElem? (i := 4) rfl))) (by decide) (backOf (W := 0) (rm1 l Z av0 hw [] (i0 &&& (9223372036854775807 : Int64)) w h0 n0 Z0 S0 (own_ge1 (own_pos i0 hc9_1))) hZ (hw _ (List.mem_of_getElem? (i := 4) rfl)) (hw _ (List.mem_of_getElem? (i := 3) rfl)) (by decide) (by decide)) (g := (mkF m 15 #[.val (.long i0), .second, .val (.long (i0 &&& (9223372036854775807 : Int64))), .second, .unset] [(.long (i0 &&& (9223372036854775807 : Int64)))])) rfl (by rw [hml]; rfl) (argsL := [(.long (i0 &&& (9223372036854775807 : Int64)))]) (rest := []) (lenOf own_pd1 rfl) rfl (by show 2 * 0 + _ ≤ _; exact Nat.le_of_eq rfl) (hb hby at_15) (fun _ _ => ⟨rfl, e0, (by decide : 0 + 1 ≤ _), (by decide : 0 + 2 ≤ _)⟩)
    dsimp only [Pt.U, Pt.locs, Pt.cells, Pt.slots] at X11 l11 y11 z11 st11 hQ11
    subst l11 y11 z11
    obtain ⟨b_11, rfl, N11q, Kc11, G11_0, G11_1, G11_2, G11_3, G11_4⟩ := hQ11
    have N11 := Fr.app N0 N11q
    have ne_w_b_11 : w ≠ b_11 := Nat.ne_of_lt (Nat.lt_of_lt_of_le E_w.lt G11_0)
    have g_b_11 : n0 ≤ b_11 := Nat.le_trans Z0 G11_0
    have sz_b_11 : h0.size ≤ b_11 := Nat.le_trans (Nat.le_refl _) G11_0
    have K11 : Keep h0 T11.heap [] := ((Keep.refl h0 [])).trans Kc11 (fun x hx => nomatch hx)
    refine OGo.by st11 ?_
    show OGo p e below _ (T11.setTop (mkF m 18 #[.val (.long i0), .second, .val (.long (i0 &&& (9223372036854775807 : Int64))), .second, .unset] [(.ref b_11)]))
    refine OGo.by (fun _ k => XS.astore X11.here hx rfl (hb hby at_18) rfl rfl (l' := #[.val (.long i0), .second, .val (.long (i0 &&& (9223372036854775807 : Int64))), .second, .val (.ref b_11)]) rfl k) ?_
    show OGo p e below _ (T11.setTop (mkF m 20 #[.val (.long i0), .second, .val (.long (i0 &&& (9223372036854775807 : Int64))), .second, .val (.ref b_11)] []))
    refine OGo.by (fun _ k => XS.aload X11.here hx rfl (hb hby at_20) rfl rfl k) ?_
    show OGo p e below _ (T11.setTop (mkF m 22 #[.val (.long i0), .second, .val (.long (i0 &&& (9223372036854775807 : Int64))), .second, .val (.ref b_11)] [(.ref b_11)]))
    refine OGo.by (fun _ k => XS.ifnonnullYes X11.here hx rfl (pc0 := 22) (pc' := 27) rfl (hb hby at_22) rfl (by decide) (by decide) k) ?_
    show OGo p e below _ (T11.setTop (mkF m 27 #[.val (.long i0), .second, .val (.long (i0 &&& (9223372036854775807 : Int64))), .second, .val (.ref b_11)] []))
    refine OGo.by (fun _ k => XS.aload X11.here hx rfl (hb hby at_27) rfl rfl k) ?_
    show OGo p e below _ (T11.setTop (mkF m 29 #[.val (.long i0), .second, .val (.long (i0 &&& (9223372036854775807 : Int64))), .second, .val (.ref b_11)] [(.ref b_11)]))
    obtain ⟨cq12, kq12, q12a, q12b, q12c⟩ := isOf hZ rfl G11_2
    obtain ⟨_, _, ⟨T12, L12, k12, n12⟩, -, X12, ⟨Lc12, hQ12, l12, y12, z12⟩, st12⟩ := X11.virtualBack hx (y := (⟨"com/example/trusty_lock/trustylock/GrantReply", "isGranted", "()Z"⟩ : MethodName)) (z := (⟨"com/example/trusty_lock/trustylock/GrantReply", "isGranted", "()Z"⟩ : MethodName)) hown (mvT hZ (hw _ (List.mem_of_getElem? (i := 19) rfl))) (mvT hZ (hw _ (List.mem_of_getElem? (i := 20) rfl))) (notFace_of_selects (args := #[]) (mvT hZ (hw _ (List.mem_of_getElem? (i := 22) rfl)))) (mvT hZ (hw _ (List.mem_of_getElem? (i := 22) rfl))) (mvT hZ (hw _ (List.mem_of_getElem? (i := 21) rfl))) (by decide) (backOf (W := 0) (rm4 l Z av0 hw [] b_11 (i0 &&& (9223372036854775807 : Int64)) T11.heap n0 (Nat.le_trans Z0 K11.1) G11_3) hZ (hw _ (List.mem_of_getElem? (i := 23) rfl)) (hw _ (List.mem_of_getElem? (i := 3) rfl)) (by decide) (by decide)) q12a q12c (g := (mkF m 29 #[.val (.long i0), .second, .val (.long (i0 &&& (9223372036854775807 : Int64))), .second, .val (.ref b_11)] [(.ref b_11)])) rfl (by rw [hml]; rfl) (Steps.refl _) (argsL := []) (rest := []) (lenOf own_pd2 rfl) rfl (by show 2 * 0 + _ ≤ _; exact Nat.le_of_eq rfl) (hb hby at_29) (fun _ _ => ⟨rfl, rfl, (by decide : 1 + 0 ≤ _), (by decide : 2 + 0 ≤ _)⟩)
    dsimp only [Pt.U, Pt.locs, Pt.cells, Pt.slots] at X12 l12 y12 z12 st12 hQ12
    subst l12 y12 z12
    obtain ⟨rfl, N12q, e12⟩ := hQ12
    have N12 := Fr.app N11 N12q
    refine OGo.of st12 ?_
    show OGo p e below _ (T12.setTop (mkF m 32 #[.val (.long i0), .second, .val (.long (i0 &&& (9223372036854775807 : Int64))), .second, .val (.ref b_11)] [(.int (own_isG (i0 &&& (9223372036854775807 : Int64))))]))
    refine OGo.by (fun _ k => XS.ifYes X12.here hx rfl (pc0 := 32) (pc' := 37) rfl (hb hby at_32) rfl ((if0 _ _).trans (feq (own_isG1' (own_pos i0 hc9_1))).2) (by decide) (by decide) k) ?_
    show OGo p e below _ (T12.setTop (mkF m 37 #[.val (.long i0), .second, .val (.long (i0 &&& (9223372036854775807 : Int64))), .second, .val (.ref b_11)] []))
    refine OGo.by (fun _ k => XS.aload X12.here hx rfl (hb hby at_37) rfl rfl k) ?_
    show OGo p e below _ (T12.setTop (mkF m 39 #[.val (.long i0), .second, .val (.long (i0 &&& (9223372036854775807 : Int64))), .second, .val (.ref b_11)] [(.ref b_11)]))
    obtain ⟨cq13, kq13, q13a, q13b, q13c⟩ := isOf hZ e12 G11_2
    obtain ⟨_, _, ⟨T13, L13, k13, n13⟩, -, X13, ⟨Lc13, hQ13, l13, y13, z13⟩, st13⟩ := X12.virtualBack hx (y := (⟨"com/example/trusty_lock/trustylock/GrantReply", "token", "()J"⟩ : MethodName)) (z := (⟨"com/example/trusty_lock/trustylock/GrantReply", "token", "()J"⟩ : MethodName)) hown (mvT hZ (hw _ (List.mem_of_getElem? (i := 24) rfl))) (mvT hZ (hw _ (List.mem_of_getElem? (i := 25) rfl))) (notFace_of_selects (args := #[]) (mvT hZ (hw _ (List.mem_of_getElem? (i := 27) rfl)))) (mvT hZ (hw _ (List.mem_of_getElem? (i := 27) rfl))) (mvT hZ (hw _ (List.mem_of_getElem? (i := 26) rfl))) (by decide) (backOf (W := 0) (rm5 l Z av0 hw [] b_11 (i0 &&& (9223372036854775807 : Int64)) T11.heap n0 (Nat.le_trans Z0 K11.1) G11_3) hZ (hw _ (List.mem_of_getElem? (i := 28) rfl)) (hw _ (List.mem_of_getElem? (i := 3) rfl)) (by decide) (by decide)) q13a q13c (g := (mkF m 39 #[.val (.long i0), .second, .val (.long (i0 &&& (9223372036854775807 : Int64))), .second, .val (.ref b_11)] [(.ref b_11)])) rfl (by rw [hml]; rfl) (Steps.refl _) (argsL := []) (rest := []) (lenOf own_pd3 rfl) rfl (by show 2 * 0 + _ ≤ _; exact Nat.le_of_eq rfl) (hb hby at_39) (fun _ _ => ⟨rfl, e12, (by decide : 1 + 0 ≤ _), (by decide : 2 + 0 ≤ _)⟩)
    dsimp only [Pt.U, Pt.locs, Pt.cells, Pt.slots] at X13 l13 y13 z13 st13 hQ13
    subst l13 y13 z13
    obtain ⟨rfl, N13q, e13⟩ := hQ13
    have N13 := Fr.app N12 N13q
    refine OGo.of st13 ?_
    show OGo p e below _ (T13.setTop (mkF m 42 #[.val (.long i0), .second, .val (.long (i0 &&& (9223372036854775807 : Int64))), .second, .val (.ref b_11)] [(.long (i0 &&& (9223372036854775807 : Int64)))]))
    refine OGo.by (fun _ k => XS.lloadN X13.here hx rfl (hb hby at_42) rfl k) ?_
    show OGo p e below _ (T13.setTop (mkF m 43 #[.val (.long i0), .second, .val (.long (i0 &&& (9223372036854775807 : Int64))), .second, .val (.ref b_11)] [(.long (i0 &&& (9223372036854775807 : Int64))), (.long (i0 &&& (9223372036854775807 : Int64)))]))
    refine OGo.by (fun _ k => XS.lcmp X13.here hx rfl (hb hby at_43) rfl k) ?_
    show OGo p e below _ (T13.setTop (mkF m 44 #[.val (.long i0), .second, .val (.long (i0 &&& (9223372036854775807 : Int64))), .second, .val (.ref b_11)] [(.int (lcmpW (i0 &&& (9223372036854775807 : Int64)) (i0 &&& (9223372036854775807 : Int64))))]))
    refine OGo.by (fun _ k => XS.ifYes X13.here hx rfl (pc0 := 44) (pc' := 49) rfl (hb hby at_44) rfl ((if0 _ _).trans (teq ((lw_eq _ _).mpr (rfl : (i0 &&& (9223372036854775807 : Int64)) = (i0 &&& (9223372036854775807 : Int64))))).1) (by decide) (by decide) k) ?_
    show OGo p e below _ (T13.setTop (mkF m 49 #[.val (.long i0), .second, .val (.long (i0 &&& (9223372036854775807 : Int64))), .second, .val (.ref b_11)] []))
    refine OGo.by (fun _ k => XS.aload X13.here hx rfl (hb hby at_49) rfl rfl k) ?_
    show OGo p e below _ (T13.setTop (mkF m 51 #[.val (.long i0), .second, .val (.long (i0 &&& (9223372036854775807 : Int64))), .second, .val (.ref b_11)] [(.ref b_11)]))
    obtain ⟨cq14, kq14, q14a, q14b, q14c⟩ := isOf hZ e13 G11_2
    obtain ⟨_, _, ⟨T14, L14, k14, n14⟩, -, X14, ⟨Lc14, hQ14, l14, y14, z14⟩, st14⟩ := X13.virtualBack hx (y := (⟨"com/example/trusty_lock/trustylock/GrantReply", "leaseLeft", "()Ljava/time/Duration;"⟩ : MethodName)) (z := (⟨"com/example/trusty_lock/trustylock/GrantReply", "leaseLeft", "()Ljava/time/Duration;"⟩ : MethodName)) hown (mvT hZ (hw _ (List.mem_of_getElem? (i := 29) rfl))) (mvT hZ (hw _ (List.mem_of_getElem? (i := 30) rfl))) (notFace_of_selects (args := #[]) (mvT hZ (hw _ (List.mem_of_getElem? (i := 32) rfl)))) (mvT hZ (hw _ (List.mem_of_getElem? (i := 32) rfl))) (mvT hZ (hw _ (List.mem_of_getElem? (i := 31) rfl))) (by decide) (backOf (W := 0) (rm6 l Z av0 hw [] b_11 w T11.heap n0 (Nat.le_trans Z0 K11.1) G11_4) hZ (hw _ (List.mem_of_getElem? (i := 33) rfl)) (hw _ (List.mem_of_getElem? (i := 3) rfl)) (by decide) (by decide)) q14a q14c (g := (mkF m 51 #[.val (.long i0), .second, .val (.long (i0 &&& (9223372036854775807 : Int64))), .second, .val (.ref b_11)] [(.ref b_11)])) rfl (by rw [hml]; rfl) (Steps.refl _) (argsL := []) (rest := []) (lenOf own_pd4 rfl) rfl (by show 2 * 0 + _ ≤ _; exact Nat.le_of_eq rfl) (hb hby at_51) (fun _ _ => ⟨rfl, e13, (by decide : 1 + 0 ≤ _), (by decide : 2 + 0 ≤ _)⟩)
    dsimp only [Pt.U, Pt.locs, Pt.cells, Pt.slots] at X14 l14 y14 z14 st14 hQ14
    subst l14 y14 z14
    obtain ⟨rfl, N14q, e14⟩ := hQ14
    have N14 := Fr.app N13 N14q
    refine OGo.of st14 ?_
    show OGo p e below _ (T14.setTop (mkF m 54 #[.val (.long i0), .second, .val (.long (i0 &&& (9223372036854775807 : Int64))), .second, .val (.ref b_11)] [(.ref w)]))
    refine OGo.by (fun _ k => XS.ifnonnullYes X14.here hx rfl (pc0 := 54) (pc' := 59) rfl (hb hby at_54) rfl (by decide) (by decide) k) ?_
    show OGo p e below _ (T14.setTop (mkF m 59 #[.val (.long i0), .second, .val (.long (i0 &&& (9223372036854775807 : Int64))), .second, .val (.ref b_11)] []))
    refine OGo.by (fun _ k => XS.aload X14.here hx rfl (hb hby at_59) rfl rfl k) ?_
    show OGo p e below _ (T14.setTop (mkF m 61 #[.val (.long i0), .second, .val (.long (i0 &&& (9223372036854775807 : Int64))), .second, .val (.ref b_11)] [(.ref b_11)]))
    obtain ⟨cq15, kq15, q15a, q15b, q15c⟩ := isOf hZ e14 G11_2
    obtain ⟨_, _, ⟨T15, L15, k15, n15⟩, -, X15, ⟨Lc15, hQ15, l15, y15, z15⟩, st15⟩ := X14.virtualBack hx (y := (⟨"com/example/trusty_lock/trustylock/GrantReply", "leaseLeft", "()Ljava/time/Duration;"⟩ : MethodName)) (z := (⟨"com/example/trusty_lock/trustylock/GrantReply", "leaseLeft", "()Ljava/time/Duration;"⟩ : MethodName)) hown (mvT hZ (hw _ (List.mem_of_getElem? (i := 29) rfl))) (mvT hZ (hw _ (List.mem_of_getElem? (i := 30) rfl))) (notFace_of_selects (args := #[]) (mvT hZ (hw _ (List.mem_of_getElem? (i := 32) rfl)))) (mvT hZ (hw _ (List.mem_of_getElem? (i := 32) rfl))) (mvT hZ (hw _ (List.mem_of_getElem? (i := 31) rfl))) (by decide) (backOf (W := 0) (rm6 l Z av0 hw [] b_11 w T11.heap n0 (Nat.le_trans Z0 K11.1) G11_4) hZ (hw _ (List.mem_of_getElem? (i := 33) rfl)) (hw _ (List.mem_of_getElem? (i := 3) rfl)) (by decide) (by decide)) q15a q15c (g := (mkF m 61 #[.val (.long i0), .second, .val (.long (i0 &&& (9223372036854775807 : Int64))), .second, .val (.ref b_11)] [(.ref b_11)])) rfl (by rw [hml]; rfl) (Steps.refl _) (argsL := []) (rest := []) (lenOf own_pd4 rfl) rfl (by show 2 * 0 + _ ≤ _; exact Nat.le_of_eq rfl) (hb hby at_61) (fun _ _ => ⟨rfl, e14, (by decide : 1 + 0 ≤ _), (by decide : 2 + 0 ≤ _)⟩)
    dsimp only [Pt.U, Pt.locs, Pt.cells, Pt.slots] at X15 l15 y15 z15 st15 hQ15
    subst l15 y15 z15
    obtain ⟨rfl, N15q, e15⟩ := hQ15
    have N15 := Fr.app N14 N15q
    refine OGo.of st15 ?_
    show OGo p e below _ (T15.setTop (mkF m 64 #[.val (.long i0), .second, .val (.long (i0 &&& (9223372036854775807 : Int64))), .second, .val (.ref b_11)] [(.ref w)]))
    have f17 : Fld Z T11.heap w "java/time/Duration" "seconds" "J" (.long (0 : Int64)) := (F_s.keep Kc11 nin0)
    have f18 : Fld Z T11.heap w "java/time/Duration" "nanos" "I" (.int (0 : Int32)) := (F_n.keep Kc11 nin0)
    have f19 : Exa Z T11.heap w "java/time/Duration" := (E_w.keep Kc11)
    obtain ⟨cq16, kq16, q16a, q16b, q16c⟩ := isOf hZ e15 f19
    obtain ⟨_, _, ⟨T16, L16, k16, n16⟩, -, X16, ⟨Lc16, hQ16, l16, y16, z16⟩, st16⟩ := X15.virtualBack hx (y := (⟨"java/time/Duration", "isZero", "()Z"⟩ : MethodName)) (z := (⟨"java/time/Duration", "isZero", "()Z"⟩ : MethodName)) hown (mvT hZ (hw _ (List.mem_of_getElem? (i := 34) rfl))) (mvT hZ (hw _ (List.mem_of_getElem? (i := 35) rfl))) (notFace_of_selects (args := #[]) (mvT hZ (hw _ (List.mem_of_getElem? (i := 37) rfl)))) (mvT hZ (hw _ (List.mem_of_getElem? (i := 37) rfl))) (mvT hZ (hw _ (List.mem_of_getElem? (i := 36) rfl))) (by decide) (backOf (W := 0) (rm7 l Z av0 hw [] w T11.heap n0 (Nat.le_trans Z0 K11.1) f17 f18) hZ (hw _ (List.mem_of_getElem? (i := 38) rfl)) (hw _ (List.mem_of_getElem? (i := 8) rfl)) (by decide) (by decide)) q16a q16c (g := (mkF m 64 #[.val (.long i0), .second, .val (.long (i0 &&& (9223372036854775807 : Int64))), .second, .val (.ref b_11)] [(.ref w)])) rfl (by rw [hml]; rfl) (Steps.refl _) (argsL := []) (rest := []) (lenOf own_pd2 rfl) rfl (by show 2 * 0 + _ ≤ _; exact Nat.le_of_eq rfl) (hb hby at_64) (fun _ _ => ⟨rfl, e15, (by decide : 1 + 0 ≤ _), (by decide : 2 + 0 ≤ _)⟩)
    dsimp only [Pt.U, Pt.locs, Pt.cells, Pt.slots] at X16 l16 y16 z16 st16 hQ16
    subst l16 y16 z16
    obtain ⟨rfl, N16q, e16⟩ := hQ16
    have N16 := Fr.app N15 N16q
    refine OGo.of st16 ?_
    show OGo p e below _ (T16.setTop (mkF m 67 #[.val (.long i0), .second, .val (.long (i0 &&& (9223372036854775807 : Int64))), .second, .val (.ref b_11)] [(.int (1 : Int32))]))
    obtain ⟨fs, hr, hrun, hended, hW, hsame⟩ := X16.leave (v := some (.int (1 : Int32))) (fun h => by rw [Bd.returns] at h; cases h)
    refine OGo.ret (retN X16 hx (t := .boolean) Bd.returns (by simp) (hb hby at_67) hr) hrun hended ⟨_, _, rfl, ?_, ⟨_, rfl⟩, hW, hsame.mono (by decide) (by decide)⟩
    show Q_rm0 Z i0 w h0 n0 _ T16.heap _
    rw [e16]
    exact ⟨rfl, N16⟩
set_option maxRecDepth 65536 in
set_option maxHeartbeats 40000000 in
theorem comes_1 {Post : Tables → Env → Array Value → State → Outcome → State → Prop} (hpost : ∀ tb e args s v u, (limb_1_1.after args s (.returned v) u = true ∧ limb_1_2.after args s (.returned v) u = true ∧ True) → FrameEnd s (.returned v) u (Jvm.fieldLocs frame_1_writes args s ++ Jvm.arrayLocs frame_1_arrays args s ++ Jvm.staticLocs frame_1_statics s) 16 128 → Post tb e args s (.returned v) u) :
    ArmFor flags0 classFile x code maxLocals ret World_1 tables_1 room_1 Calls_1 rest_1 Pre_1 Post := by
  intro l hfl _ _ p e ha hc hk s m args below hf hA hF happ hP
  obtain ⟨hcalls, hrest, hpre⟩ := hP
  obtain ⟨-, -, -, hnamed, -, -, -, hat⟩ := (Spec.applies_iff hf).mp happ
  obtain ⟨hg, hn⟩ := and_e (Cond.before_iff.mp (show (Jvm.Cond.and given_1 narrow_1).before args s = true from hpre))
  obtain ⟨hg0, hgr⟩ := and_e hg
  obtain ⟨w0, rfl⟩ : ∃ w0 : Value, args = #[w0] := by
    have hs : args.size = 1 := by simpa [Cond.value, given_1] using hg0
    obtain ⟨L⟩ := args
    match L, hs with
    | [w0], _ => exact ⟨w0, rfl⟩
  have hw := fun d (hd : d ∈ tables_1) => atoms_spec (ws := Jvm.Cond.code x code maxLocals ret :: tables_1) hat d (List.mem_cons_of_mem _ hd)
  have hfit : Fit s := fun {y c} hc i hi => by
    obtain ⟨ha, rfl⟩ := Array.getElem?_eq_some_iff.mp hc
    have q := List.all_eq_true.mp ((Array.all_eq_true_iff_forall_mem.mp hF) _ (Array.getElem_mem ha)) i (List.mem_range.mpr hi)
    simpa [Array.getElem?_eq_getElem hi] using q
  obtain ⟨hsets, hown0⟩ := atoms_of _ (rest_1_c_eq ▸ (show rest_1_c.before _ s = true from hrest))
  have hr0 := Cond.before_iff.mp hown0
  obtain ⟨i0, ei0⟩ := isL_v hgr
  obtain rfl : w0 = (.long i0) := Option.some.inj ei0
  have hz2 := Cond.before_iff.mp (hsets _ (List.mem_of_getElem? (i := 2) rfl))
  have hz3 := Cond.before_iff.mp (hsets _ (List.mem_of_getElem? (i := 3) rfl))
  have hz4 := Cond.before_iff.mp (hsets _ (List.mem_of_getElem? (i := 4) rfl))
  obtain ⟨w, v⟩ := exa_v hz2
  have S0 := Sta.start v (Or.inl (hsets _ (List.mem_of_getElem? (i := 1) rfl)))
  have E0 := Exa.start v hz2
  have F0 := Fld.start ((fld_at v).symm.trans (own_eqL hz3))
  have F1 := Fld.start ((fld_at v).symm.trans (own_eqI hz4))
  obtain ⟨n, o, h1, h2, h3, _, L, rfl, ⟨rfl, N⟩, hq⟩ := rm0 l s _ hw tables_1 i0 w s.heap s.heap.size (Nat.le_refl _) S0 E0 F0 F1 p e ha hc hk s m _ below hf ((Spec.applies_iff_loose hf).mp happ).1 ⟨rfl, State.Warmed39.refl s, rfl⟩ trivial
  refine ⟨n, _, h1, h2, h3, hpost _ _ _ _ _ _ ⟨Cond.after_iff.mpr rfl, Cond.after_iff.mpr (eq_i res_at (Term.int_eval (1)) rfl), trivial⟩ ⟨hq.1, hq.2.1, (hq.2.2.sift fun y hy => Or.inr (N y hy)).mono (by decide) (by decide)⟩⟩
theorem main_1_1 : Claimed_1_1 := comes_1 fun _ _ _ _ _ _ h hF => ⟨h.1, hF⟩
theorem main_1_2 : Claimed_1_2 := comes_1 fun _ _ _ _ _ _ h hF => ⟨h.2.1, hF⟩
end Jvm.Pilot.@@N@@
namespace Jvm.Pilot.@@N@@
open Jvm Jvm.ClassFile Sem Op Lib Jvm.Free Jvm.Stand Jvm.Pilot.@@N@@.Jvm.D
/-! MADE BY PROGRAM (witnessworld.py) out of the Statement's table words and the real class files: 12 classes; the members and pool entries that the words name. The judged class is class 1, her method 1. -/
namespace start1
open Jvm.ClassFile
def u (s : String) : CpInfo := .utf8 (stringToUtf16 s)
/-- a pool by its gaps: so many unusable entries, then the entry; so many at the end -/
def gap : Nat → List CpInfo → List CpInfo
  | 0, r => r
  | n + 1, r => .unusable :: gap n r
def poolList (es : List (Nat × CpInfo)) (last : Nat) : List CpInfo := es.foldr (fun e r => gap e.1 (e.2 :: r)) (gap last [])
def pool (es : List (Nat × CpInfo)) (last : Nat) : Array CpInfo := ⟨poolList es last⟩
def fileOf (pool : Array CpInfo) (this : Nat) (attrs : Array Attribute := #[]) (ms : Array MethodInfo := #[]) (fl : Nat := 33) (sup : Nat := 0) (ifs : Array Nat := #[]) (fds : Array FieldInfo := #[]) : ClassFile where
  minorVersion := 0
  majorVersion := 65
  constantPool := pool
  accessFlags := fl
  thisClass := this
  superClass := sup
  interfaces := ifs
  fields := fds
  methods := ms
  attributes := attrs
def plain (name : String) (sup : Option ClassId) : Class where
  name := name
  kind := .ordinary
  loader := none
  accessFlags := 33
  super := sup
  interfaces := #[]
  cf := none
  fields := #[]
  methods := #[]
  instanceTypes := #[]
  staticTypes := #[]
  resolved := #[]
  callSites := []
  init := .initialized
  statics := none
  mirror := none

def pool0 : Array CpInfo := pool [(5, u "<init>"), (0, u "()V"), (1, .class_ 10), (1, u "java/lang/Object")] 113

def k0c0 : Code := { maxStack := 0, maxLocals := 1, code := object_method_1_code, exceptionTable := #[], attributes := #[] }
def k0m0 : Method := { name := "<init>", desc := "()V", sig := { parameters := [], returnType := none }, accessFlags := 1, code := some k0c0 }
/-- java/lang/Object -/
def k0 : Class := { plain "java/lang/Object" none with
  accessFlags := 33
  interfaces := #[]
  cf := some (fileOf pool0 8 #[] #[{ accessFlags := 1, nameIndex := 5, descriptorIndex := 6, attributes := #[] }] 33 0 #[] #[])
  fields := #[]
  methods := #[k0m0]
  instanceTypes := #[]
  staticTypes := #[]
  resolved := Array.replicate 124 none
  statics := none }

def pool1 : Array CpInfo := pool [(2, .class_ 4), (1, u "java/lang/Object"), (0, u "<init>"), (0, u "()V"), (2, .long 9223372036854775807), (1, .methodref 12 13), (0, .class_ 14), (0, .nameAndType 15 16), (0, u "com/example/trusty_lock/trustylock/GrantReply"), (0, u "granted"), (0, u "(J)Lcom/example/trusty_lock/trustylock/GrantReply;"), (0, .methodref 12 18), (0, .nameAndType 19 20), (0, u "isGranted"), (0, u "()Z"), (0, .methodref 12 22), (0, .nameAndType 23 24), (0, u "token"), (0, u "()J"), (0, .methodref 12 26), (0, .nameAndType 27 28), (0, u "leaseLeft"), (0, u "()Ljava/time/Duration;"), (0, .methodref 30 31), (0, .class_ 32), (0, .nameAndType 33 20), (0, u "java/time/Duration"), (0, u "isZero"), (0, .class_ 35), (0, u "com/example/trusty_lock/trustylock/GrantReplyGrantedPinLaw"), (2, u "law"), (0, u "(J)Z")] 3

def k1m0 : Method := { name := "<init>", desc := "()V", sig := { parameters := [], returnType := none }, accessFlags := 1, code := none }
def k1c1 : Code := { maxStack := 4, maxLocals := 5, code := code, exceptionTable := #[], attributes := #[] }
def k1m1 : Method := { name := "law", desc := "(J)Z", sig := { parameters := [.long], returnType := some .boolean }, accessFlags := 9, code := some k1c1 }
/-- com/example/trusty_lock/trustylock/GrantReplyGrantedPinLaw -/
def k1 : Class := { plain "com/example/trusty_lock/trustylock/GrantReplyGrantedPinLaw" (some 0) with
  accessFlags := 49
  interfaces := #[]
  cf := some (fileOf pool1 34 #[] #[{ accessFlags := 1, nameIndex := 5, descriptorIndex := 6, attributes := #[] }, { accessFlags := 9, nameIndex := 38, descriptorIndex := 39, attributes := #[] }] 49 2 #[] #[])
  fields := #[]
  methods := #[k1m0, k1m1]
  instanceTypes := #[]
  staticTypes := #[]
  resolved := Array.replicate 43 none
  statics := none }

def pool2 : Array CpInfo := pool [(1, .methodref 2 3), (0, .class_ 4), (0, .nameAndType 5 6), (0, u "java/lang/Object"), (0, u "<init>"), (0, u "()V"), (0, .fieldref 8 9), (0, .class_ 10), (0, .nameAndType 11 12), (0, u "com/example/trusty_lock/trustylock/GrantReply"), (0, u "token"), (0, u "J"), (0, .fieldref 8 14), (0, .nameAndType 15 16), (0, u "leaseLeft"), (0, u "Ljava/time/Duration;"), (9, .fieldref 27 28), (0, .class_ 29), (0, .nameAndType 30 16), (0, u "java/time/Duration"), (0, u "ZERO"), (0, .methodref 8 32), (0, .nameAndType 5 33), (0, u "(JLjava/time/Duration;)V"), (10, u "()Z"), (11, u "isGranted"), (11, u "()Ljava/time/Duration;"), (2, u "NO_LEASE_END"), (2, u "granted"), (0, u "(J)Lcom/example/trusty_lock/trustylock/GrantReply;"), (3, u "()J")] 26

def k2c0 : Code := { maxStack := 3, maxLocals := 4, code := prog_7_method_1_code, exceptionTable := #[], attributes := #[] }
def k2m0 : Method := { name := "<init>", desc := "(JLjava/time/Duration;)V", sig := { parameters := [.long, (.object "java/time/Duration")], returnType := none }, accessFlags := 2, code := some k2c0 }
def k2c1 : Code := { maxStack := 5, maxLocals := 2, code := prog_7_method_2_code, exceptionTable := #[], attributes := #[] }
def k2m1 : Method := { name := "granted", desc := "(J)Lcom/example/trusty_lock/trustylock/GrantReply;", sig := { parameters := [.long], returnType := some (.object "com/example/trusty_lock/trustylock/GrantReply") }, accessFlags := 9, code := some k2c1 }
def k2c2 : Code := { maxStack := 4, maxLocals := 1, code := prog_7_method_4_code, exceptionTable := #[], attributes := #[] }
def k2m2 : Method := { name := "isGranted", desc := "()Z", sig := { parameters := [], returnType := some .boolean }, accessFlags := 1, code := some k2c2 }
def k2c3 : Code := { maxStack := 2, maxLocals := 1, code := prog_7_method_5_code, exceptionTable := #[], attributes := #[] }
def k2m3 : Method := { name := "token", desc := "()J", sig := { parameters := [], returnType := some .long }, accessFlags := 1, code := some k2c3 }
def k2c4 : Code := { maxStack := 1, maxLocals := 1, code := prog_7_method_6_code, exceptionTable := #[], attributes := #[] }
def k2m4 : Method := { name := "leaseLeft", desc := "()Ljava/time/Duration;", sig := { parameters := [], returnType := some (.object "java/time/Duration") }, accessFlags := 1, code := some k2c4 }
/-- com/example/trusty_lock/trustylock/GrantReply -/
def k2 : Class := { plain "com/example/trusty_lock/trustylock/GrantReply" (some 0) with
  accessFlags := 49
  interfaces := #[]
  cf := some (fileOf pool2 8 #[] #[{ accessFlags := 2, nameIndex := 5, descriptorIndex := 33, attributes := #[] }, { accessFlags := 9, nameIndex := 74, descriptorIndex := 75, attributes := #[] }, { accessFlags := 1, nameIndex := 56, descriptorIndex := 44, attributes := #[] }, { accessFlags := 1, nameIndex := 11, descriptorIndex := 79, attributes := #[] }, { accessFlags := 1, nameIndex := 15, descriptorIndex := 68, attributes := #[] }] 49 2 #[] #[{ accessFlags := 25, nameIndex := 71, descriptorIndex := 16, attributes := #[] }, { accessFlags := 18, nameIndex := 11, descriptorIndex := 12, attributes := #[] }, { accessFlags := 18, nameIndex := 15, descriptorIndex := 16, attributes := #[] }])
  fields := #[{ name := "NO_LEASE_END", type := (.object "java/time/Duration"), accessFlags := 25, slot := 0, constantValue := 0 }, { name := "token", type := .long, accessFlags := 18, slot := 0, constantValue := 0 }, { name := "leaseLeft", type := (.object "java/time/Duration"), accessFlags := 18, slot := 1, constantValue := 0 }]
  methods := #[k2m0, k2m1, k2m2, k2m3, k2m4]
  instanceTypes := #[.long, (.object "java/time/Duration")]
  staticTypes := #[(.object "java/time/Duration")]
  resolved := Array.replicate 106 none
  statics := none }

def pool3 : Array CpInfo := pool [(1, .class_ 2), (0, u "java/time/temporal/TemporalAmount"), (0, .class_ 4), (0, u "java/lang/Object")] 11

/-- java/time/temporal/TemporalAmount -/
def k3 : Class := { plain "java/time/temporal/TemporalAmount" (some 0) with
  accessFlags := 1537
  interfaces := #[]
  cf := some (fileOf pool3 1 #[] #[] 1537 3 #[] #[])
  fields := #[]
  methods := #[]
  instanceTypes := #[]
  staticTypes := #[]
  resolved := Array.replicate 16 none
  statics := none }

def pool4 : Array CpInfo := pool [(1, .class_ 2), (0, u "java/lang/Comparable"), (0, .class_ 4), (0, u "java/lang/Object")] 7

/-- java/lang/Comparable -/
def k4 : Class := { plain "java/lang/Comparable" (some 0) with
  accessFlags := 1537
  interfaces := #[]
  cf := some (fileOf pool4 1 #[] #[] 1537 3 #[] #[])
  fields := #[]
  methods := #[]
  instanceTypes := #[]
  staticTypes := #[]
  resolved := Array.replicate 12 none
  statics := none }

def pool5 : Array CpInfo := pool [(1, .class_ 2), (0, u "java/io/Serializable"), (0, .class_ 4), (0, u "java/lang/Object")] 2

/-- java/io/Serializable -/
def k5 : Class := { plain "java/io/Serializable" (some 0) with
  accessFlags := 1537
  interfaces := #[]
  cf := some (fileOf pool5 1 #[] #[] 1537 3 #[] #[])
  fields := #[]
  methods := #[]
  instanceTypes := #[]
  staticTypes := #[]
  resolved := Array.replicate 7 none
  statics := none }

def pool6 : Array CpInfo := pool [(11, .class_ 13), (1, u "java/time/Duration"), (20, u "ZERO"), (0, u "Ljava/time/Duration;"), (13, .class_ 51), (1, u "java/time/temporal/TemporalAmount"), (13, u "()Z"), (13, .class_ 81), (1, u "java/time/Duration$Lazy"), (35, u "seconds"), (101, .class_ 220), (0, u "java/lang/Object"), (0, .fieldref 11 222), (0, .nameAndType 117 223), (0, u "J"), (0, .fieldref 11 225), (0, .nameAndType 226 227), (0, u "nanos"), (0, u "I"), (11, .class_ 241), (1, u "java/time/Duration$DurationUnits"), (27, .class_ 271), (1, u "java/time/Duration$1"), (91, u "BI_NANOS_PER_SECOND"), (0, u "Ljava/math/BigInteger;"), (120, .class_ 486), (0, u "java/lang/Comparable"), (0, .class_ 488), (0, u "java/io/Serializable"), (0, u "serialVersionUID"), (66, u "isZero")] 99

def k6c0 : Code := { maxStack := 4, maxLocals := 1, code := jdk_2316_method_21_code, exceptionTable := #[], attributes := #[] }
def k6m0 : Method := { name := "isZero", desc := "()Z", sig := { parameters := [], returnType := some .boolean }, accessFlags := 1, code := some k6c0 }
/-- java/time/Duration -/
def k6 : Class := { plain "java/time/Duration" (some 0) with
  accessFlags := 49
  interfaces := #[3, 4, 5]
  cf := some (fileOf pool6 11 #[.nestMembers #[269, 239, 79]] #[{ accessFlags := 1, nameIndex := 556, descriptorIndex := 65, attributes := #[] }] 49 219 #[49, 485, 487] #[{ accessFlags := 25, nameIndex := 34, descriptorIndex := 35, attributes := #[] }, { accessFlags := 26, nameIndex := 489, descriptorIndex := 223, attributes := #[] }, { accessFlags := 26, nameIndex := 363, descriptorIndex := 364, attributes := #[] }, { accessFlags := 18, nameIndex := 117, descriptorIndex := 223, attributes := #[] }, { accessFlags := 18, nameIndex := 226, descriptorIndex := 227, attributes := #[] }])
  fields := #[{ name := "ZERO", type := (.object "java/time/Duration"), accessFlags := 25, slot := 0, constantValue := 0 }, { name := "serialVersionUID", type := .long, accessFlags := 26, slot := 1, constantValue := 0 }, { name := "BI_NANOS_PER_SECOND", type := (.object "java/math/BigInteger"), accessFlags := 26, slot := 2, constantValue := 0 }, { name := "seconds", type := .long, accessFlags := 18, slot := 0, constantValue := 0 }, { name := "nanos", type := .int, accessFlags := 18, slot := 1, constantValue := 0 }]
  methods := #[k6m0]
  instanceTypes := #[.long, .int]
  staticTypes := #[(.object "java/time/Duration"), .long, (.object "java/math/BigInteger")]
  resolved := Array.replicate 656 none
  statics := some 0 }

def pool7 : Array CpInfo := pool [(1, u "java/lang/Cloneable"), (0, .class_ 1), (0, u "java/lang/Object"), (0, .class_ 3)] 3

/-- java/lang/Cloneable -/
def k7 : Class := { plain "java/lang/Cloneable" (some 0) with
  accessFlags := 1537
  interfaces := #[]
  cf := some (fileOf pool7 2 #[] #[] 1537 4 #[] #[])
  fields := #[]
  methods := #[]
  instanceTypes := #[]
  staticTypes := #[]
  resolved := Array.replicate 8 none
  statics := none }

/-- the primitive byte -/
def k8 : Class := { plain "byte" none with kind := .primitive 'B', accessFlags := 0x411 }
/-- [B -/
def k9 : Class := { plain "[B" (some 0) with kind := .array 8 .byte, interfaces := #[7, 5], accessFlags := 1041 }

/-- the primitive int -/
def k10 : Class := { plain "int" none with kind := .primitive 'I', accessFlags := 0x411 }
/-- [I -/
def k11 : Class := { plain "[I" (some 0) with kind := .array 10 .int, interfaces := #[7, 5], accessFlags := 1041 }

def heap : Heap := #[{ cls := 6, slots := #[.ref 1, .long 0, .null], vm := .statics 6 },
  { cls := 6, slots := #[.long 0, .int 0], vm := .none }]
def classes : Array Class := #[k0, k1, k2, k3, k4, k5, k6, k7, k8, k9, k10, k11]
def interned : List (Array UInt16 × Addr) := []
def slotsUsed : Nat := 5
def theMethod : MethodId := ⟨1, 1⟩
def args0 : Array Value := #[.long 5]
def aboutOver (below : List Frame) : State where
  vm := { classes := classes, interned := interned.toArray }
  heap := heap
  slotsUsed := slotsUsed
  threads := #[{ frames := .invoking theMethod args0 :: below }]
def below0 : List Frame := [.native { method := ⟨0, 0⟩, args := #[] }]
def about1 : State := aboutOver below0
def p0 : Program := .bare "" "" ""
def e0 : Env := launch0.env 0 0 0
theorem w_frames : about1.frames = Frame.invoking theMethod args0 :: below0 := rfl
set_option maxRecDepth 65536 in
theorem w_args : argsFit about1.vm theMethod args0 = true := by decide +kernel
set_option maxRecDepth 65536 in
theorem w_heap : heapFits about1 = true := by decide +kernel
set_option maxRecDepth 65536 in
theorem w_runnable : about1.curStatus? = some .runnable := by decide +kernel
set_option maxRecDepth 65536 in
theorem w_alone : about1.alone = true := by decide +kernel
set_option maxRecDepth 65536 in
theorem w_named : about1.methodNamed? x = some theMethod := by decide +kernel
set_option maxRecDepth 65536 in
theorem w_hears : about1.hears theMethod below0 = true := by decide +kernel
set_option maxRecDepth 65536 in
theorem w_ripe : about1.ripe theMethod args0 below0 = true := by decide +kernel
theorem w_running : about1.status = .running := rfl
set_option maxRecDepth 65536 in
theorem w_room : about1.hasRoom e0.platform room_1 = true :=
  launch0.hasRoom_least _ room_1 (by decide +kernel) (by decide +kernel) (by decide +kernel) (by decide +kernel) (by decide +kernel) (by decide +kernel)
theorem allAtoms_all (ts : List Jvm.Cond) (a : Array Jvm.Value) (st : Jvm.State) : (allAtoms ts).before a st = ts.all (fun c => c.before a st) := by
  induction ts with
  | nil => rfl
  | cons c t ih =>
    show (Jvm.Cond.and c (allAtoms t)).before a st = _
    rw [Jvm.Cond.before_and, ih, List.all_cons]
def words1 : List Jvm.Cond := Jvm.Cond.code x code maxLocals ret :: tables_1
/-- a 'code' word, met by the world's own term for the bytes: nothing is compared byte by byte -/
theorem code_word {y : MethodName} {bytes : ByteArray} {mx : Nat} {rt : Option FieldType} {a : Array Value} {s : State} {m : MethodId} {meth : Method} {c : Code} (h1 : s.methodNamed? y = some m) (h2 : s.vm.method? m = some meth) (h3 : meth.code = some c) (h4 : c.code = bytes)
    (h5 : (c.maxLocals == mx && c.exceptionTable.isEmpty && decide (c.maxStack ≤ mostOperands) && decide (meth.sig.returnType = rt) && !meth.locks && decide (parseMethodDescriptor y.desc = some meth.sig)) = true) : (Jvm.Cond.code y bytes mx rt).before a s = true := by
  simp only [Bool.and_eq_true, beq_iff_eq, Bool.not_eq_true', decide_eq_true_eq] at h5
  obtain ⟨⟨⟨⟨⟨g1, g2⟩, g3⟩, g4⟩, g5⟩, g6⟩ := h5
  simp [Cond.before, Cond.holds, Cond.value, h1, h2, h3, h4, g1, g2, g3, g4, g5, g6]
def isCode : Jvm.Cond → Bool
  | .code _ _ _ _ => true
  | _ => false
theorem all_split {L : List Jvm.Cond} {P : Jvm.Cond → Bool} (h1 : L.all (fun c => isCode c || P c) = true) (h2 : ∀ c ∈ L.filter isCode, P c = true) : L.all P = true := by
  refine List.all_eq_true.mpr fun c hc => ?_
  have h := List.all_eq_true.mp h1 c hc
  rcases Bool.eq_false_or_eq_true (isCode c) with hi | hi
  · exact h2 c (List.mem_filter.mpr ⟨hc, hi⟩)
  · simpa [hi] using h
set_option maxRecDepth 65536 in
theorem w_c0 : (Jvm.Cond.code x code maxLocals ret).before args0 about1 = true := code_word (m := ⟨1, 1⟩) (meth := k1m1) (c := k1c1) (by decide +kernel) rfl rfl rfl (by decide +kernel)
set_option maxRecDepth 65536 in
theorem w_c1 : (Jvm.Cond.code ({ cls := "com/example/trusty_lock/trustylock/GrantReply", name := "granted", desc := "(J)Lcom/example/trusty_lock/trustylock/GrantReply;" } : Jvm.MethodName) prog_7_method_2_code (2 : Nat) (Option.some (Jvm.ClassFile.FieldType.object "com/example/trusty_lock/trustylock/GrantReply"))).before args0 about1 = true := code_word (m := ⟨2, 1⟩) (meth := k2m1) (c := k2c1) (by decide +kernel) rfl rfl rfl (by decide +kernel)
set_option maxRecDepth 65536 in
theorem w_c2 : (Jvm.Cond.code ({ cls := "com/example/trusty_lock/trustylock/GrantReply", name := "<init>", desc := "(JLjava/time/Duration;)V" } : Jvm.MethodName) prog_7_method_1_code (4 : Nat) (Option.none : Option Jvm.ClassFile.FieldType)).before args0 about1 = true := code_word (m := ⟨2, 0⟩) (meth := k2m0) (c := k2c0) (by decide +kernel) rfl rfl rfl (by decide +kernel)
set_option maxRecDepth 65536 in
theorem w_c3 : (Jvm.Cond.code ({ cls := "java/lang/Object", name := "<init>", desc := "()V" } : Jvm.MethodName) object_method_1_code (1 : Nat) (Option.none : Option Jvm.ClassFile.FieldType)).before args0 about1 = true := code_word (m := ⟨0, 0⟩) (meth := k0m0) (c := k0c0) (by decide +kernel) rfl rfl rfl (by decide +kernel)
set_option maxRecDepth 65536 in
theorem w_c4 : (Jvm.Cond.code ({ cls := "com/example/trusty_lock/trustylock/GrantReply", name := "isGranted", desc := "()Z" } : Jvm.MethodName) prog_7_method_4_code (1 : Nat) (Option.some Jvm.ClassFile.FieldType.boolean)).before args0 about1 = true := code_word (m := ⟨2, 2⟩) (meth := k2m2) (c := k2c2) (by decide +kernel) rfl rfl rfl (by decide +kernel)
set_option maxRecDepth 65536 in
theorem w_c5 : (Jvm.Cond.code ({ cls := "com/example/trusty_lock/trustylock/GrantReply", name := "token", desc := "()J" } : Jvm.MethodName) prog_7_method_5_code (1 : Nat) (Option.some Jvm.ClassFile.FieldType.long)).before args0 about1 = true := code_word (m := ⟨2, 3⟩) (meth := k2m3) (c := k2c3) (by decide +kernel) rfl rfl rfl (by decide +kernel)
set_option maxRecDepth 65536 in
theorem w_c6 : (Jvm.Cond.code ({ cls := "com/example/trusty_lock/trustylock/GrantReply", name := "leaseLeft", desc := "()Ljava/time/Duration;" } : Jvm.MethodName) prog_7_method_6_code (1 : Nat) (Option.some (Jvm.ClassFile.FieldType.object "java/time/Duration"))).before args0 about1 = true := code_word (m := ⟨2, 4⟩) (meth := k2m4) (c := k2c4) (by decide +kernel) rfl rfl rfl (by decide +kernel)
set_option maxRecDepth 65536 in
theorem w_c7 : (Jvm.Cond.code ({ cls := "java/time/Duration", name := "isZero", desc := "()Z" } : Jvm.MethodName) jdk_2316_method_21_code (1 : Nat) (Option.some Jvm.ClassFile.FieldType.boolean)).before args0 about1 = true := code_word (m := ⟨6, 0⟩) (meth := k6m0) (c := k6c0) (by decide +kernel) rfl rfl rfl (by decide +kernel)
def codes1 : List Jvm.Cond := [Jvm.Cond.code x code maxLocals ret, Jvm.Cond.code ({ cls := "com/example/trusty_lock/trustylock/GrantReply", name := "granted", desc := "(J)Lcom/example/trusty_lock/trustylock/GrantReply;" } : Jvm.MethodName) prog_7_method_2_code (2 : Nat) (Option.some (Jvm.ClassFile.FieldType.object "com/example/trusty_lock/trustylock/GrantReply")), Jvm.Cond.code ({ cls := "com/example/trusty_lock/trustylock/GrantReply", name := "<init>", desc := "(JLjava/time/Duration;)V" } : Jvm.MethodName) prog_7_method_1_code (4 : Nat) (Option.none : Option Jvm.ClassFile.FieldType), Jvm.Cond.code ({ cls := "java/lang/Object", name := "<init>", desc := "()V" } : Jvm.MethodName) object_method_1_code (1 : Nat) (Option.none : Option Jvm.ClassFile.FieldType), Jvm.Cond.code ({ cls := "com/example/trusty_lock/trustylock/GrantReply", name := "isGranted", desc := "()Z" } : Jvm.MethodName) prog_7_method_4_code (1 : Nat) (Option.some Jvm.ClassFile.FieldType.boolean), Jvm.Cond.code ({ cls := "com/example/trusty_lock/trustylock/GrantReply", name := "token", desc := "()J" } : Jvm.MethodName) prog_7_method_5_code (1 : Nat) (Option.some Jvm.ClassFile.FieldType.long), Jvm.Cond.code ({ cls := "com/example/trusty_lock/trustylock/GrantReply", name := "leaseLeft", desc := "()Ljava/time/Duration;" } : Jvm.MethodName) prog_7_method_6_code (1 : Nat) (Option.some (Jvm.ClassFile.FieldType.object "java/time/Duration")), Jvm.Cond.code ({ cls := "java/time/Duration", name := "isZero", desc := "()Z" } : Jvm.MethodName) jdk_2316_method_21_code (1 : Nat) (Option.some Jvm.ClassFile.FieldType.boolean)]
set_option maxRecDepth 65536 in
theorem codes_eq : words1.filter isCode = codes1 := rfl
theorem w_codes : ∀ c ∈ words1.filter isCode, c.before args0 about1 = true := by
  rw [codes_eq]
  intro c hc
  simp only [codes1, List.mem_cons, List.not_mem_nil, or_false] at hc
  rcases hc with rfl | rfl | rfl | rfl | rfl | rfl | rfl | rfl
  · exact w_c0
  · exact w_c1
  · exact w_c2
  · exact w_c3
  · exact w_c4
  · exact w_c5
  · exact w_c6
  · exact w_c7
set_option maxRecDepth 65536 in
theorem w_t1 : (words1.take 24).all (fun c => isCode c || c.before args0 about1) = true := by decide +kernel
set_option maxRecDepth 65536 in
theorem w_t2 : (words1.drop 24).all (fun c => isCode c || c.before args0 about1) = true := by decide +kernel
theorem w_tables : (allAtoms (Jvm.Cond.code x code maxLocals ret :: tables_1)).before args0 about1 = true := by
  rw [allAtoms_all]
  show words1.all (fun c => c.before args0 about1) = true
  refine all_split ?_ w_codes
  rw [← List.take_append_drop 24 words1, List.all_append, w_t1, w_t2]
  rfl
set_option maxRecDepth 65536 in
theorem w_rest : rest_1_c.before args0 about1 = true := by decide +kernel
set_option maxRecDepth 65536 in
theorem w_case : (Jvm.Cond.and given_1 narrow_1).before args0 about1 = true := by decide +kernel
theorem w_applies : (headSpec (Jvm.Cond.code x code maxLocals ret :: tables_1) room_1).applies x e0.platform about1 = true :=
  (Spec.applies_iff w_frames).mpr ⟨w_running, w_runnable, w_alone, w_named, w_hears, w_ripe, w_room, w_tables⟩
theorem atStart : AtStart classFile x code maxLocals ret World_1 tables_1 room_1 Calls_1 rest_1 Pre_1 launch0 p0 e0 about1 theMethod args0 below0 :=
  ⟨lists_1, trivial, launch0.admits_env _ _ _, launch0.least_env, fairChoices_fair.cas, fairChoices_fair.clock, w_frames, w_args, w_heap, w_applies, trivial, w_rest, w_case⟩
end start1
theorem witness_1 : WitnessClaimed_1 := ⟨start1.p0, start1.e0, start1.about1, start1.theMethod, start1.args0, start1.below0, start1.atStart⟩
end Jvm.Pilot.@@N@@
