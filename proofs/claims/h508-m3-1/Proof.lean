import JvmDerived
import JvmDerived.Pilot.@@N@@Statement
import JvmDerived.Pilot.@@N@@Code
set_option linter.unusedVariables false
set_option linter.unusedSimpArgs false
namespace Jvm.RoadKit
open Sem ClassFile Op Lib Jvm.Stand Jvm.Free Jvm.LawKit
section New
variable {p : Program} {l : Launch} {e : Env} {R : Room} {s : State} {m : MethodId} {args : Array Value} {below : List Frame} {meth : Method} {c : Code} {T : State} {locs : List Loc} {cells slots : Nat}
theorem retI (X : Stand p l e R s m args below meth c T locs cells slots) (hx : p.tables.exec = Jvm.exec) {pc : Nat} {Ls : Array Slot} {z : Int32} {rest : List Value} (hret : meth.sig.returnType = some .int) (hd : decode c.code pc = .ok (.ireturn, 1)) {fs : List Frame}
    (hl : ∀ (f : JFrame) (acts : List Action), f.method = m → f.locked = none → f.entered = [] → (doReturn e (T.setTop f) acts (some (.int z))).1 = T.setFrames fs) : Steps p.tables e below (T.setTop (mkF m pc Ls (.int z :: rest))) (T.setFrames fs) := by
  have hm' : T.vm.method? m = some meth := X.method'
  have hn : narrow .int (.int z) = .int z := rfl
  show Steps p.tables e below (T.setTop { method := m, pc := pc, locals := Ls, stack := _ :: rest, locked := none }) _
  jvm_step X.here [X.here.top, hx, hd, hm', hret, hn]
  first | (intro acts; rw [hl _ acts rfl rfl rfl]) | rw [hl _ _ rfl rfl rfl]
  exact Steps.refl _
end New
end Jvm.RoadKit
namespace Jvm.Pilot.@@N@@
open Jvm Jvm.ClassFile Sem Op Lib Jvm.Free Jvm.Stand Jvm.LawKit Jvm.RoadKit Bundle Jvm.Pilot.@@N@@.Jvm.D
/-- from S the run ends, in a state and with an outcome of which P holds -/
def OGo (p : Program) (e : Env) (below : List Frame) (P : State → Outcome → Prop) (S : State) : Prop :=
  ∃ s₂ o, Steps p.tables e below S s₂ ∧ s₂.status = .running ∧ Ended s₂ below o ∧ P s₂ o
theorem OGo.by {p : Program} {e : Env} {below : List Frame} {P : State → Outcome → Prop} {S S' : State} (h : ∀ t, Steps p.tables e below S' t → Steps p.tables e below S t) (g : OGo p e below P S') : OGo p e below P S := by
  obtain ⟨s₂, o, h1, h2⟩ := g; exact ⟨s₂, o, h _ h1, h2⟩
theorem OGo.of {p : Program} {e : Env} {below : List Frame} {P : State → Outcome → Prop} {S S' : State} (h : Steps p.tables e below S S') (g : OGo p e below P S') : OGo p e below P S := by
  obtain ⟨s₂, o, h1, h2⟩ := g; exact ⟨s₂, o, h.trans h1, h2⟩
theorem OGo.ret {p : Program} {e : Env} {below : List Frame} {P : State → Outcome → Prop} {S S' : State} {o : Outcome} (h : Steps p.tables e below S S') (h1 : S'.status = .running) (h2 : Ended S' below o) (h3 : P S' o) : OGo p e below P S := ⟨S', o, h, h1, h2, h3⟩
theorem own_eqR {args : Array Value} {first s : State} {o : Option Outcome} {idx : List Nat} {a b : Term} {w : Addr} (hb : b.eval args first o idx s = some (.ref w)) (h : (Jvm.Cond.eq a b).value args first o s idx = some true) : a.eval args first o idx s = some (.ref w) := by
  obtain ⟨x, y, h1, h2, -, k⟩ := cmp_v (Or.inl h)
  obtain rfl : y = .ref w := (Option.some.inj (h2.symm.trans hb))
  have q := gotT (eq_R h1 h2 k.2 rfl) h
  rw [h1, q]
theorem d1_0 : decode prog_85_method_8_code 0 = .ok (.aload_n 0, 1) := by decide +kernel
theorem d1_1 : decode prog_85_method_8_code 1 = .ok (.getfield 48, 3) := by decide +kernel
theorem d1_4 : decode prog_85_method_8_code 4 = .ok (.ifnonnull 7, 3) := by decide +kernel
theorem d1_7 : decode prog_85_method_8_code 7 = .ok (.aload_n 0, 1) := by decide +kernel
theorem d1_8 : decode prog_85_method_8_code 8 = .ok (.goto 7, 3) := by decide +kernel
theorem d1_15 : decode prog_85_method_8_code 15 = .ok (.areturn, 1) := by decide +kernel
theorem own_pn1 : plainName "com/example/packctl/packctl/Profile" = true := by first | (simp [plainName, overriddenIn]; done) | decide +kernel
theorem ef_rm1n (m : MethodId) (a0 : Addr) : entryFrame m #[(.ref a0)] 1 = mkF m 0 #[.val (.ref a0)] [] := by first | (simp [entryFrame, mkF, argsToLocals, Value.category]; done) | rfl
def Q_rm1n (Z : State) (a0 : Addr) (h0 : Heap) (n0 : Nat) (v : Option Value) (h : Heap) (L : List Loc) : Prop := v = some (.ref a0) ∧ Fr n0 L ∧ h = h0
set_option maxRecDepth 65536 in
set_option maxHeartbeats 40000000 in
theorem rm1n (l : Launch) (Z : State) (av0 : Array Value) (hw : ∀ d ∈ tables_1, d.before av0 Z = true) (ws : List Jvm.Cond) (a0 : Addr) (h0 : Heap) (n0 : Nat) (Z0 : n0 ≤ h0.size) (F0 : Fld Z h0 a0 "com/example/packctl/packctl/Profile" "csip" "Lcom/example/packctl/packctl/Profile;" .null) :
    MetFree l (⟨"com/example/packctl/packctl/Profile", "csip", "()Lcom/example/packctl/packctl/Profile;"⟩ : MethodName) (head1 (Jvm.Cond.code (⟨"com/example/packctl/packctl/Profile", "csip", "()Lcom/example/packctl/packctl/Profile;"⟩ : MethodName) prog_85_method_8_code 1 (some (.object "com/example/packctl/packctl/Profile")) :: ws) ({ frames := 0, cells := 0, slots := 0, locals := 0 } : Room)) (fun a U => a = #[(.ref a0)] ∧ Z.Warmed39 U.vm ∧ U.heap = h0) (fun _ _ _ _ _ => True) (fun _ U o U' => ∃ v L, o = .returned v ∧ Q_rm1n Z a0 h0 n0 v U'.heap L ∧ FrameEnd U o U' L ({ frames := 0, cells := 0, slots := 0, locals := 0 } : Room).cells ({ frames := 0, cells := 0, slots := 0, locals := 0 } : Room).slots) := by
  refine MetFree.of_bodySF (plainFor_of_name own_pn1) hisR ?_
  intro p e s m args below meth c s₁ Bd hml0 hP hK
  obtain ⟨rfl, hZ, hh⟩ := hP
  have hx := Bd.exec
  have hby := Bd.bytes
  have hml : c.maxLocals = 1 := hml0
  have hown : s.vm.findClass "com/example/packctl/packctl/Profile" = some m.cls := findClass_of_methodNamed Bd.named
  have hnm := (name_of_methodNamed Bd.named Bd.method).1
  have X0 : Stand p l e ({ frames := 0, cells := 0, slots := 0, locals := 0 } : Room) s m #[(.ref a0)] below meth c s₁ [] 0 0 := Stand.of_body Bd
  have e0 : s₁.heap = h0 := by rw [← hh, Bd.state]; rfl
  have N0 := Fr.nil n0
  refine OGo.by (P := fun U' o => ∃ v L, o = .returned v ∧ Q_rm1n Z a0 h0 n0 v U'.heap L ∧ FrameEnd s o U' L ({ frames := 0, cells := 0, slots := 0, locals := 0 } : Room).cells ({ frames := 0, cells := 0, slots := 0, locals := 0 } : Room).slots) (fun t k => castTop (ef_rm1n m a0) k) ?_
  show OGo p e below _ (s₁.setTop (mkF m 0 #[.val (.ref a0)] []))
  refine OGo.by (fun _ k => XS.aloadN X0.here hx rfl (hb hby d1_0) rfl rfl k) ?_
  show OGo p e below _ (s₁.setTop (mkF m 1 #[.val (.ref a0)] [(.ref a0)]))
  obtain ⟨T1, X1, e1, st1⟩ := getF X0 hx hZ hown (host := "") (Or.inl (hw _ (List.mem_of_getElem? (i := 9) rfl))) Via.refl e0 F0 (g := (mkF m 1 #[.val (.ref a0)] [(.ref a0)])) rfl rfl (hb hby d1_1)
  refine OGo.by st1 ?_
  show OGo p e below _ (T1.setTop (mkF m 4 #[.val (.ref a0)] [.null]))
  refine OGo.by (fun _ k => XS.ifnonnullNo X1.here hx rfl (hb hby d1_4) rfl k) ?_
  show OGo p e below _ (T1.setTop (mkF m 7 #[.val (.ref a0)] []))
  refine OGo.by (fun _ k => XS.aloadN X1.here hx rfl (hb hby d1_7) rfl rfl k) ?_
  show OGo p e below _ (T1.setTop (mkF m 8 #[.val (.ref a0)] [(.ref a0)]))
  refine OGo.by (fun _ k => XS.goto X1.here hx rfl (pc0 := 8) (pc' := 15) rfl (hb hby d1_8) (by decide) (by decide) k) ?_
  show OGo p e below _ (T1.setTop (mkF m 15 #[.val (.ref a0)] [(.ref a0)]))
  obtain ⟨fs, hr, hrun, hended, hW, hsame⟩ := X1.leave (v := some (.ref a0)) (fun h => by rw [Bd.returns] at h; cases h)
  refine OGo.ret (retOut X1 hx Bd.returns rfl (Or.inr (Or.inr (Or.inr (Or.inr ⟨rfl, rfl, rfl⟩)))) (hb hby d1_15) hr) hrun hended ⟨_, _, rfl, ?_, ⟨_, rfl⟩, hW, hsame.mono (by decide) (by decide)⟩
  show Q_rm1n Z a0 h0 n0 _ T1.heap _
  rw [e1]
  exact ⟨rfl, N0, rfl⟩
theorem d1_11 : decode prog_85_method_8_code 11 = .ok (.aload_n 0, 1) := by decide +kernel
theorem d1_12 : decode prog_85_method_8_code 12 = .ok (.getfield 48, 3) := by decide +kernel
theorem ef_rm1s (m : MethodId) (a0 : Addr) : entryFrame m #[(.ref a0)] 1 = mkF m 0 #[.val (.ref a0)] [] := by first | (simp [entryFrame, mkF, argsToLocals, Value.category]; done) | rfl
def Q_rm1s (Z : State) (a0 : Addr) (w1 : Addr) (h0 : Heap) (n0 : Nat) (v : Option Value) (h : Heap) (L : List Loc) : Prop := v = some (.ref w1) ∧ Fr n0 L ∧ h = h0
set_option maxRecDepth 65536 in
set_option maxHeartbeats 40000000 in
theorem rm1s (l : Launch) (Z : State) (av0 : Array Value) (hw : ∀ d ∈ tables_1, d.before av0 Z = true) (ws : List Jvm.Cond) (a0 : Addr) (w1 : Addr) (h0 : Heap) (n0 : Nat) (Z0 : n0 ≤ h0.size) (F0 : Fld Z h0 a0 "com/example/packctl/packctl/Profile" "csip" "Lcom/example/packctl/packctl/Profile;" (.ref w1)) :
    MetFree l (⟨"com/example/packctl/packctl/Profile", "csip", "()Lcom/example/packctl/packctl/Profile;"⟩ : MethodName) (head1 (Jvm.Cond.code (⟨"com/example/packctl/packctl/Profile", "csip", "()Lcom/example/packctl/packctl/Profile;"⟩ : MethodName) prog_85_method_8_code 1 (some (.object "com/example/packctl/packctl/Profile")) :: ws) ({ frames := 0, cells := 0, slots := 0, locals := 0 } : Room)) (fun a U => a = #[(.ref a0)] ∧ Z.Warmed39 U.vm ∧ U.heap = h0) (fun _ _ _ _ _ => True) (fun _ U o U' => ∃ v L, o = .returned v ∧ Q_rm1s Z a0 w1 h0 n0 v U'.heap L ∧ FrameEnd U o U' L ({ frames := 0, cells := 0, slots := 0, locals := 0 } : Room).cells ({ frames := 0, cells := 0, slots := 0, locals := 0 } : Room).slots) := by
  refine MetFree.of_bodySF (plainFor_of_name own_pn1) hisR ?_
  intro p e s m args below meth c s₁ Bd hml0 hP hK
  obtain ⟨rfl, hZ, hh⟩ := hP
  have hx := Bd.exec
  have hby := Bd.bytes
  have hml : c.maxLocals = 1 := hml0
  have hown : s.vm.findClass "com/example/packctl/packctl/Profile" = some m.cls := findClass_of_methodNamed Bd.named
  have hnm := (name_of_methodNamed Bd.named Bd.method).1
  have X0 : Stand p l e ({ frames := 0, cells := 0, slots := 0, locals := 0 } : Room) s m #[(.ref a0)] below meth c s₁ [] 0 0 := Stand.of_body Bd
  have e0 : s₁.heap = h0 := by rw [← hh, Bd.state]; rfl
  have N0 := Fr.nil n0
  refine OGo.by (P := fun U' o => ∃ v L, o = .returned v ∧ Q_rm1s Z a0 w1 h0 n0 v U'.heap L ∧ FrameEnd s o U' L ({ frames := 0, cells := 0, slots := 0, locals := 0 } : Room).cells ({ frames := 0, cells := 0, slots := 0, locals := 0 } : Room).slots) (fun t k => castTop (ef_rm1s m a0) k) ?_
  show OGo p e below _ (s₁.setTop (mkF m 0 #[.val (.ref a0)] []))
  refine OGo.by (fun _ k => XS.aloadN X0.here hx rfl (hb hby d1_0) rfl rfl k) ?_
  show OGo p e below _ (s₁.setTop (mkF m 1 #[.val (.ref a0)] [(.ref a0)]))
  obtain ⟨T1, X1, e1, st1⟩ := getF X0 hx hZ hown (host := "") (Or.inl (hw _ (List.mem_of_getElem? (i := 9) rfl))) Via.refl e0 F0 (g := (mkF m 1 #[.val (.ref a0)] [(.ref a0)])) rfl rfl (hb hby d1_1)
  refine OGo.by st1 ?_
  show OGo p e below _ (T1.setTop (mkF m 4 #[.val (.ref a0)] [(.ref w1)]))
  refine OGo.by (fun _ k => XS.ifnonnullYes X1.here hx rfl (pc0 := 4) (pc' := 11) rfl (hb hby d1_4) rfl (by decide) (by decide) k) ?_
  show OGo p e below _ (T1.setTop (mkF m 11 #[.val (.ref a0)] []))
  refine OGo.by (fun _ k => XS.aloadN X1.here hx rfl (hb hby d1_11) rfl rfl k) ?_
  show OGo p e below _ (T1.setTop (mkF m 12 #[.val (.ref a0)] [(.ref a0)]))
  obtain ⟨T2, X2, e2, st2⟩ := getF X1 hx hZ hown (host := "") (Or.inl (hw _ (List.mem_of_getElem? (i := 9) rfl))) Via.refl e1 F0 (g := (mkF m 12 #[.val (.ref a0)] [(.ref a0)])) rfl rfl (hb hby d1_12)
  refine OGo.by st2 ?_
  show OGo p e below _ (T2.setTop (mkF m 15 #[.val (.ref a0)] [(.ref w1)]))
  obtain ⟨fs, hr, hrun, hended, hW, hsame⟩ := X2.leave (v := some (.ref w1)) (fun h => by rw [Bd.returns] at h; cases h)
  refine OGo.ret (retOut X2 hx Bd.returns rfl (Or.inr (Or.inr (Or.inr (Or.inr ⟨rfl, rfl, rfl⟩)))) (hb hby d1_15) hr) hrun hended ⟨_, _, rfl, ?_, ⟨_, rfl⟩, hW, hsame.mono (by decide) (by decide)⟩
  show Q_rm1s Z a0 w1 h0 n0 _ T2.heap _
  rw [e2]
  exact ⟨rfl, N0, rfl⟩
theorem own_pd0 : parseMethodDescriptor "()Lcom/example/packctl/packctl/Profile;" = some ⟨[], some (.object "com/example/packctl/packctl/Profile")⟩ := by decide +kernel
theorem own_pn0 : plainName "com/example/packctl/packctl/ProfileCsipPinLaw" = true := by first | (simp [plainName, overriddenIn]; done) | decide +kernel
theorem ef_rm0 (m : MethodId) (i0 : Int32) : entryFrame m #[(.int i0)] maxLocals = mkF m 0 #[.val (.int i0), .unset, .unset, .unset] [] := by first | (simp [entryFrame, mkF, argsToLocals, Value.category, maxLocals]; done) | rfl
def Q_rm0 (Z : State) (i0 : Int32) (w_CSIP_2_2_0 : Addr) (w_CSIP_2_1_0 : Addr) (w_CSIP_2_0_4 : Addr) (w_SIP_2_2_0 : Addr) (w_SIP_2_1_0 : Addr) (w_SIP_2_0_4 : Addr) (h0 : Heap) (n0 : Nat) (v : Option Value) (h : Heap) (L : List Loc) : Prop := v = some (.int 1) ∧ Fr n0 L
set_option maxRecDepth 65536 in
set_option maxHeartbeats 40000000 in
theorem rm0 (l : Launch) (Z : State) (av0 : Array Value) (hw : ∀ d ∈ tables_1, d.before av0 Z = true) (ws : List Jvm.Cond) (i0 : Int32) (w_CSIP_2_2_0 : Addr) (w_CSIP_2_1_0 : Addr) (w_CSIP_2_0_4 : Addr) (w_SIP_2_2_0 : Addr) (w_SIP_2_1_0 : Addr) (w_SIP_2_0_4 : Addr) (h0 : Heap) (n0 : Nat) (Z0 : n0 ≤ h0.size) (S_CSIP_2_2_0 : Sta Z h0 "com/example/packctl/packctl/Profile" "CSIP_2_2_0" "Lcom/example/packctl/packctl/Profile;" (.ref w_CSIP_2_2_0)) (S_CSIP_2_1_0 : Sta Z h0 "com/example/packctl/packctl/Profile" "CSIP_2_1_0" "Lcom/example/packctl/packctl/Profile;" (.ref w_CSIP_2_1_0)) (S_CSIP_2_0_4 : Sta Z h0 "com/example/packctl/packctl/Profile" "CSIP_2_0_4" "Lcom/example/packctl/packctl/Profile;" (.ref w_CSIP_2_0_4)) (S_SIP_2_2_0 : Sta Z h0 "com/example/packctl/packctl/Profile" "SIP_2_2_0" "Lcom/example/packctl/packctl/Profile;" (.ref w_SIP_2_2_0)) (S_SIP_2_1_0 : Sta Z h0 "com/example/packctl/packctl/Profile" "SIP_2_1_0" "Lcom/example/packctl/packctl/Profile;" (.ref w_SIP_2_1_0)) (S_SIP_2_0_4 : Sta Z h0 "com/example/packctl/packctl/Profile" "SIP_2_0_4" "Lcom/example/packctl/packctl/Profile;" (.ref w_SIP_2_0_4)) (E_CSIP_2_2_0 : Exa Z h0 w_CSIP_2_2_0 "com/example/packctl/packctl/Profile") (E_CSIP_2_1_0 : Exa Z h0 w_CSIP_2_1_0 "com/example/packctl/packctl/Profile") (E_CSIP_2_0_4 : Exa Z h0 w_CSIP_2_0_4 "com/example/packctl/packctl/Profile") (E_SIP_2_2_0 : Exa Z h0 w_SIP_2_2_0 "com/example/packctl/packctl/Profile") (E_SIP_2_1_0 : Exa Z h0 w_SIP_2_1_0 "com/example/packctl/packctl/Profile") (E_SIP_2_0_4 : Exa Z h0 w_SIP_2_0_4 "com/example/packctl/packctl/Profile") (F_CSIP_2_2_0 : Fld Z h0 w_CSIP_2_2_0 "com/example/packctl/packctl/Profile" "csip" "Lcom/example/packctl/packctl/Profile;" .null) (F_CSIP_2_1_0 : Fld Z h0 w_CSIP_2_1_0 "com/example/packctl/packctl/Profile" "csip" "Lcom/example/packctl/packctl/Profile;" .null) (F_CSIP_2_0_4 : Fld Z h0 w_CSIP_2_0_4 "com/example/packctl/packctl/Profile" "csip" "Lcom/example/packctl/packctl/Profile;" .null) (F_SIP_2_2_0 : Fld Z h0 w_SIP_2_2_0 "com/example/packctl/packctl/Profile" "csip" "Lcom/example/packctl/packctl/Profile;" (.ref w_CSIP_2_2_0)) (F_SIP_2_1_0 : Fld Z h0 w_SIP_2_1_0 "com/example/packctl/packctl/Profile" "csip" "Lcom/example/packctl/packctl/Profile;" (.ref w_CSIP_2_1_0)) (F_SIP_2_0_4 : Fld Z h0 w_SIP_2_0_4 "com/example/packctl/packctl/Profile" "csip" "Lcom/example/packctl/packctl/Profile;" (.ref w_CSIP_2_0_4)) :
    MetFree l x (head1 (Jvm.Cond.code x code maxLocals ret :: ws) room_1) (fun a U => a = #[(.int i0)] ∧ Z.Warmed39 U.vm ∧ U.heap = h0) (fun _ _ _ _ _ => True) (fun _ U o U' => ∃ v L, o = .returned v ∧ Q_rm0 Z i0 w_CSIP_2_2_0 w_CSIP_2_1_0 w_CSIP_2_0_4 w_SIP_2_2_0 w_SIP_2_1_0 w_SIP_2_0_4 h0 n0 v U'.heap L ∧ FrameEnd U o U' L room_1.cells room_1.slots) := by
  refine MetFree.of_bodySF (plainFor_of_name own_pn0) hisR ?_
  intro p e s m args below meth c s₁ Bd hml0 hP hK
  obtain ⟨rfl, hZ, hh⟩ := hP
  have hx := Bd.exec
  have hby := Bd.bytes
  have hml : c.maxLocals = 4 := hml0
  have hown : s.vm.findClass "com/example/packctl/packctl/ProfileCsipPinLaw" = some m.cls := findClass_of_methodNamed Bd.named
  have hnm := (name_of_methodNamed Bd.named Bd.method).1
  have X0 : Stand p l e room_1 s m #[(.int i0)] below meth c s₁ [] 0 0 := Stand.of_body Bd
  have e0 : s₁.heap = h0 := by rw [← hh, Bd.state]; rfl
  have N0 := Fr.nil n0
  refine OGo.by (P := fun U' o => ∃ v L, o = .returned v ∧ Q_rm0 Z i0 w_CSIP_2_2_0 w_CSIP_2_1_0 w_CSIP_2_0_4 w_SIP_2_2_0 w_SIP_2_1_0 w_SIP_2_0_4 h0 n0 v U'.heap L ∧ FrameEnd s o U' L room_1.cells room_1.slots) (fun t k => castTop (ef_rm0 m i0) k) ?_
  show OGo p e below _ (s₁.setTop (mkF m 0 #[.val (.int i0), .unset, .unset, .unset] []))
  refine OGo.by (fun _ k => XS.iloadN X0.here hx rfl (hb hby at_0) rfl k) ?_
  show OGo p e below _ (s₁.setTop (mkF m 1 #[.val (.int i0), .unset, .unset, .unset] [(.int i0)]))
  refine OGo.by (X0.ldcInt hx hown (mvT hZ (hw _ (List.mem_of_getElem? (i := 0) rfl))) (g := (mkF m 1 #[.val (.int i0), .unset, .unset, .unset] [(.int i0)])) rfl (hb hby at_1)) ?_
  show OGo p e below _ (s₁.setTop (mkF m 3 #[.val (.int i0), .unset, .unset, .unset] [(.int (2147483647 : Int32)), (.int i0)]))
  refine OGo.by (fun _ k => XS.iand X0.here hx rfl (hb hby at_3) rfl k) ?_
  show OGo p e below _ (s₁.setTop (mkF m 4 #[.val (.int i0), .unset, .unset, .unset] [(.int (i0 &&& (2147483647 : Int32)))]))
  refine OGo.by (fun _ k => XS.bipush X0.here hx rfl (hb hby at_4) k) ?_
  show OGo p e below _ (s₁.setTop (mkF m 6 #[.val (.int i0), .unset, .unset, .unset] [(.int (6 : Int32)), (.int (i0 &&& (2147483647 : Int32)))]))
  refine OGo.by (fun _ k => iremM X0 hx rfl (hb hby at_6) rfl (by decide) k) ?_
  show OGo p e below _ (s₁.setTop (mkF m 7 #[.val (.int i0), .unset, .unset, .unset] [(.int ((i0 &&& (2147483647 : Int32)) % (6 : Int32)))]))
  refine OGo.by (fun _ k => XS.istoreN X0.here hx rfl (hb hby at_7) rfl (l' := #[.val (.int i0), .val (.int ((i0 &&& (2147483647 : Int32)) % (6 : Int32))), .unset, .unset]) rfl k) ?_
  show OGo p e below _ (s₁.setTop (mkF m 8 #[.val (.int i0), .val (.int ((i0 &&& (2147483647 : Int32)) % (6 : Int32))), .unset, .unset] []))
  refine OGo.by (fun _ k => XS.iloadN X0.here hx rfl (hb hby at_8) rfl k) ?_
  show OGo p e below _ (s₁.setTop (mkF m 9 #[.val (.int i0), .val (.int ((i0 &&& (2147483647 : Int32)) % (6 : Int32))), .unset, .unset] [(.int ((i0 &&& (2147483647 : Int32)) % (6 : Int32)))]))
  by_cases hc9_1 : ((i0 &&& (2147483647 : Int32)) % (6 : Int32)) = (0 : Int32)
  · refine OGo.by (fun _ k => XS.ifNo X0.here hx rfl (hb hby at_9) rfl ((if0 _ _).trans (teq hc9_1).2) k) ?_
    show OGo p e below _ (s₁.setTop (mkF m 12 #[.val (.int i0), .val (.int ((i0 &&& (2147483647 : Int32)) % (6 : Int32))), .unset, .unset] []))
    obtain ⟨T2, X2, e2, st2⟩ := getS2 X0 hx hZ hown (host := "") (Or.inl (hw _ (List.mem_of_getElem? (i := 1) rfl))) Via.refl e0 S_CSIP_2_2_0 (g := (mkF m 12 #[.val (.int i0), .val (.int ((i0 &&& (2147483647 : Int32)) % (6 : Int32))), .unset, .unset] [])) rfl (hb hby at_12)
    refine OGo.by st2 ?_
    show OGo p e below _ (T2.setTop (mkF m 15 #[.val (.int i0), .val (.int ((i0 &&& (2147483647 : Int32)) % (6 : Int32))), .unset, .unset] [(.ref w_CSIP_2_2_0)]))
    refine OGo.by (fun _ k => XS.astoreN X2.here hx rfl (hb hby at_15) rfl rfl (l' := #[.val (.int i0), .val (.int ((i0 &&& (2147483647 : Int32)) % (6 : Int32))), .val (.ref w_CSIP_2_2_0), .unset]) rfl k) ?_
    show OGo p e below _ (T2.setTop (mkF m 16 #[.val (.int i0), .val (.int ((i0 &&& (2147483647 : Int32)) % (6 : Int32))), .val (.ref w_CSIP_2_2_0), .unset] []))
    obtain ⟨T3, X3, e3, st3⟩ := getS2 X2 hx hZ hown (host := "") (Or.inl (hw _ (List.mem_of_getElem? (i := 1) rfl))) Via.refl e2 S_CSIP_2_2_0 (g := (mkF m 16 #[.val (.int i0), .val (.int ((i0 &&& (2147483647 : Int32)) % (6 : Int32))), .val (.ref w_CSIP_2_2_0), .unset] [])) rfl (hb hby at_16)
    refine OGo.by st3 ?_
    show OGo p e below _ (T3.setTop (mkF m 19 #[.val (.int i0), .val (.int ((i0 &&& (2147483647 : Int32)) % (6 : Int32))), .val (.ref w_CSIP_2_2_0), .unset] [(.ref w_CSIP_2_2_0)]))
    refine OGo.by (fun _ k => XS.astoreN X3.here hx rfl (hb hby at_19) rfl rfl (l' := #[.val (.int i0), .val (.int ((i0 &&& (2147483647 : Int32)) % (6 : Int32))), .val (.ref w_CSIP_2_2_0), .val (.ref w_CSIP_2_2_0)]) rfl k) ?_
    show OGo p e below _ (T3.setTop (mkF m 20 #[.val (.int i0), .val (.int ((i0 &&& (2147483647 : Int32)) % (6 : Int32))), .val (.ref w_CSIP_2_2_0), .val (.ref w_CSIP_2_2_0)] []))
    refine OGo.by (fun _ k => XS.goto X3.here hx rfl (pc0 := 20) (pc' := 95) rfl (hb hby at_20) (by decide) (by decide) k) ?_
    show OGo p e below _ (T3.setTop (mkF m 95 #[.val (.int i0), .val (.int ((i0 &&& (2147483647 : Int32)) % (6 : Int32))), .val (.ref w_CSIP_2_2_0), .val (.ref w_CSIP_2_2_0)] []))
    refine OGo.by (fun _ k => XS.aloadN X3.here hx rfl (hb hby at_95) rfl rfl k) ?_
    show OGo p e below _ (T3.setTop (mkF m 96 #[.val (.int i0), .val (.int ((i0 &&& (2147483647 : Int32)) % (6 : Int32))), .val (.ref w_CSIP_2_2_0), .val (.ref w_CSIP_2_2_0)] [(.ref w_CSIP_2_2_0)]))
    obtain ⟨cq4, kq4, q4a, q4b, q4c⟩ := isOf hZ e3 E_CSIP_2_2_0
    obtain ⟨_, _, ⟨T4, L4, k4, n4⟩, -, X4, ⟨Lc4, hQ4, l4, y4, z4⟩, st4⟩ := X3.virtualBack hx (y := (⟨"com/example/packctl/packctl/Profile", "csip", "()Lcom/example/packctl/packctl/Profile;"⟩ : MethodName)) (z := (⟨"com/example/packctl/packctl/Profile", "csip", "()Lcom/example/packctl/packctl/Profile;"⟩ : MethodName)) hown (mvT hZ (hw _ (List.mem_of_getElem? (i := 4) rfl))) (mvT hZ (hw _ (List.mem_of_getElem? (i := 5) rfl))) (notFace_of_selects (args := #[]) (mvT hZ (hw _ (List.mem_of_getElem? (i := 7) rfl)))) (mvT hZ (hw _ (List.mem_of_getElem? (i := 7) rfl))) (mvT hZ (hw _ (List.mem_of_getElem? (i := 6) rfl))) (by decide) (backOf (W := 0) (rm1n l Z av0 hw [] w_CSIP_2_2_0 h0 n0 Z0 F_CSIP_2_2_0) hZ (hw _ (List.mem_of_getElem? (i := 8) rfl)) (hw _ (List.mem_of_getElem? (i := 2) rfl)) (by decide) (by decide)) q4a q4c (g := (mkF m 96 #[.val (.int i0), .val (.int ((i0 &&& (2147483647 : Int32)) % (6 : Int32))), .val (.ref w_CSIP_2_2_0), .val (.ref w_CSIP_2_2_0)] [(.ref w_CSIP_2_2_0)])) rfl (by rw [hml]; rfl) (Steps.refl _) (argsL := []) (rest := []) (lenOf own_pd0 rfl) rfl (by show 2 * 0 + _ ≤ _; exact Nat.le_of_eq rfl) (hb hby at_96) (fun _ _ => ⟨rfl, e3, (by decide : 0 + 0 ≤ _), (by decide : 0 + 0 ≤ _)⟩)
    dsimp only [Pt.U, Pt.locs, Pt.cells, Pt.slots] at X4 l4 y4 z4 st4 hQ4
    subst l4 y4 z4
    obtain ⟨rfl, N4q, e4⟩ := hQ4
    have N4 := Fr.app N0 N4q
    refine OGo.of st4 ?_
    show OGo p e below _ (T4.setTop (mkF m 99 #[.val (.int i0), .val (.int ((i0 &&& (2147483647 : Int32)) % (6 : Int32))), .val (.ref w_CSIP_2_2_0), .val (.ref w_CSIP_2_2_0)] [(.ref w_CSIP_2_2_0)]))
    refine OGo.by (fun _ k => XS.aloadN X4.here hx rfl (hb hby at_99) rfl rfl k) ?_
    show OGo p e below _ (T4.setTop (mkF m 100 #[.val (.int i0), .val (.int ((i0 &&& (2147483647 : Int32)) % (6 : Int32))), .val (.ref w_CSIP_2_2_0), .val (.ref w_CSIP_2_2_0)] [(.ref w_CSIP_2_2_0), (.ref w_CSIP_2_2_0)]))
    refine OGo.by (fun _ k => Jvm.RoadKit.acmp (g := (mkF m 100 #[.val (.int i0), .val (.int ((i0 &&& (2147483647 : Int32)) % (6 : Int32))), .val (.ref w_CSIP_2_2_0), .val (.ref w_CSIP_2_2_0)] [(.ref w_CSIP_2_2_0), (.ref w_CSIP_2_2_0)])) X4 hx rfl rfl rfl (pc0 := 100) (pc' := 103) (same := true) rfl (hb hby at_100) rfl (decide_eq_true rfl) (by decide) (by decide) k) ?_
    show OGo p e below _ (T4.setTop (mkF m 103 #[.val (.int i0), .val (.int ((i0 &&& (2147483647 : Int32)) % (6 : Int32))), .val (.ref w_CSIP_2_2_0), .val (.ref w_CSIP_2_2_0)] []))
    refine OGo.by (fun _ k => XS.iconst X4.here hx rfl (hb hby at_103) k) ?_
    show OGo p e below _ (T4.setTop (mkF m 104 #[.val (.int i0), .val (.int ((i0 &&& (2147483647 : Int32)) % (6 : Int32))), .val (.ref w_CSIP_2_2_0), .val (.ref w_CSIP_2_2_0)] [(.int (1 : Int32))]))
    refine OGo.by (fun _ k => XS.goto X4.here hx rfl (pc0 := 104) (pc' := 108) rfl (hb hby at_104) (by decide) (by decide) k) ?_
    show OGo p e below _ (T4.setTop (mkF m 108 #[.val (.int i0), .val (.int ((i0 &&& (2147483647 : Int32)) % (6 : Int32))), .val (.ref w_CSIP_2_2_0), .val (.ref w_CSIP_2_2_0)] [(.int (1 : Int32))]))
    obtain ⟨fs, hr, hrun, hended, hW, hsame⟩ := X4.leave (v := some (.int (1 : Int32))) (fun h => by rw [Bd.returns] at h; cases h)
    refine OGo.ret (retN X4 hx (t := .boolean) Bd.returns (by simp) (hb hby at_108) hr) hrun hended ⟨_, _, rfl, ?_, ⟨_, rfl⟩, hW, hsame.mono (by decide) (by decide)⟩
    show Q_rm0 Z i0 w_CSIP_2_2_0 w_CSIP_2_1_0 w_CSIP_2_0_4 w_SIP_2_2_0 w_SIP_2_1_0 w_SIP_2_0_4 h0 n0 _ T4.heap _
    rw [e4]
    exact ⟨rfl, N4⟩
  · refine OGo.by (fun _ k => XS.ifYes X0.here hx rfl (pc0 := 9) (pc' := 23) rfl (hb hby at_9) rfl ((if0 _ _).trans (feq hc9_1).2) (by decide) (by decide) k) ?_
    show OGo p e below _ (s₁.setTop (mkF m 23 #[.val (.int i0), .val (.int ((i0 &&& (2147483647 : Int32)) % (6 : Int32))), .unset, .unset] []))
    refine OGo.by (fun _ k => XS.iloadN X0.here hx rfl (hb hby at_23) rfl k) ?_
    show OGo p e below _ (s₁.setTop (mkF m 24 #[.val (.int i0), .val (.int ((i0 &&& (2147483647 : Int32)) % (6 : Int32))), .unset, .unset] [(.int ((i0 &&& (2147483647 : Int32)) % (6 : Int32)))]))
    refine OGo.by (fun _ k => XS.iconst X0.here hx rfl (hb hby at_24) k) ?_
    show OGo p e below _ (s₁.setTop (mkF m 25 #[.val (.int i0), .val (.int ((i0 &&& (2147483647 : Int32)) % (6 : Int32))), .unset, .unset] [(.int (1 : Int32)), (.int ((i0 &&& (2147483647 : Int32)) % (6 : Int32)))]))
    by_cases hc25_5 : ((i0 &&& (2147483647 : Int32)) % (6 : Int32)) = (1 : Int32)
    · refine OGo.by (fun _ k => XS.icmpNo X0.here hx rfl (hb hby at_25) rfl (teq hc25_5).2 k) ?_
      show OGo p e below _ (s₁.setTop (mkF m 28 #[.val (.int i0), .val (.int ((i0 &&& (2147483647 : Int32)) % (6 : Int32))), .unset, .unset] []))
      obtain ⟨T6, X6, e6, st6⟩ := getS2 X0 hx hZ hown (host := "") (Or.inl (hw _ (List.mem_of_getElem? (i := 15) rfl))) Via.refl e0 S_CSIP_2_1_0 (g := (mkF m 28 #[.val (.int i0), .val (.int ((i0 &&& (2147483647 : Int32)) % (6 : Int32))), .unset, .unset] [])) rfl (hb hby at_28)
      refine OGo.by st6 ?_
      show OGo p e below _ (T6.setTop (mkF m 31 #[.val (.int i0), .val (.int ((i0 &&& (2147483647 : Int32)) % (6 : Int32))), .unset, .unset] [(.ref w_CSIP_2_1_0)]))
      refine OGo.by (fun _ k => XS.astoreN X6.here hx rfl (hb hby at_31) rfl rfl (l' := #[.val (.int i0), .val (.int ((i0 &&& (2147483647 : Int32)) % (6 : Int32))), .val (.ref w_CSIP_2_1_0), .unset]) rfl k) ?_
      show OGo p e below _ (T6.setTop (mkF m 32 #[.val (.int i0), .val (.int ((i0 &&& (2147483647 : Int32)) % (6 : Int32))), .val (.ref w_CSIP_2_1_0), .unset] []))
      obtain ⟨T7, X7, e7, st7⟩ := getS2 X6 hx hZ hown (host := "") (Or.inl (hw _ (List.mem_of_getElem? (i := 15) rfl))) Via.refl e6 S_CSIP_2_1_0 (g := (mkF m 32 #[.val (.int i0), .val (.int ((i0 &&& (2147483647 : Int32)) % (6 : Int32))), .val (.ref w_CSIP_2_1_0), .unset] [])) rfl (hb hby at_32)
      refine OGo.by st7 ?_
      show OGo p e below _ (T7.setTop (mkF m 35 #[.val (.int i0), .val (.int ((i0 &&& (2147483647 : Int32)) % (6 : Int32))), .val (.ref w_CSIP_2_1_0), .unset] [(.ref w_CSIP_2_1_0)]))
      refine OGo.by (fun _ k => XS.astoreN X7.here hx rfl (hb hby at_35) rfl rfl (l' := #[.val (.int i0), .val (.int ((i0 &&& (2147483647 : Int32)) % (6 : Int32))), .val (.ref w_CSIP_2_1_0), .val (.ref w_CSIP_2_1_0)]) rfl k) ?_
      show OGo p e below _ (T7.setTop (mkF m 36 #[.val (.int i0), .val (.int ((i0 &&& (2147483647 : Int32)) % (6 : Int32))), .val (.ref w_CSIP_2_1_0), .val (.ref w_CSIP_2_1_0)] []))
      refine OGo.by (fun _ k => XS.goto X7.here hx rfl (pc0 := 36) (pc' := 95) rfl (hb hby at_36) (by decide) (by decide) k) ?_
      show OGo p e below _ (T7.setTop (mkF m 95 #[.val (.int i0), .val (.int ((i0 &&& (2147483647 : Int32)) % (6 : Int32))), .val (.ref w_CSIP_2_1_0), .val (.ref w_CSIP_2_1_0)] []))
      refine OGo.by (fun _ k => XS.aloadN X7.here hx rfl (hb hby at_95) rfl rfl k) ?_
      show OGo p e below _ (T7.setTop (mkF m 96 #[.val (.int i0), .val (.int ((i0 &&& (2147483647 : Int32)) % (6 : Int32))), .val (.ref w_CSIP_2_1_0), .val (.ref w_CSIP_2_1_0)] [(.ref w_CSIP_2_1_0)]))
      obtain ⟨cq8, kq8, q8a, q8b, q8c⟩ := isOf hZ e7 E_CSIP_2_1_0
      obtain ⟨_, _, ⟨T8, L8, k8, n8⟩, -, X8, ⟨Lc8, hQ8, l8, y8, z8⟩, st8⟩ := X7.virtualBack hx (y := (⟨"com/example/packctl/packctl/Profile", "csip", "()Lcom/example/packctl/packctl/Profile;"⟩ : MethodName)) (z := (⟨"com/example/packctl/packctl/Profile", "csip", "()Lcom/example/packctl/packctl/Profile;"⟩ : MethodName)) hown (mvT hZ (hw _ (List.mem_of_getElem? (i := 4) rfl))) (mvT hZ (hw _ (List.mem_of_getElem? (i := 5) rfl))) (notFace_of_selects (args := #[]) (mvT hZ (hw _ (List.mem_of_getElem? (i := 7) rfl)))) (mvT hZ (hw _ (List.mem_of_getElem? (i := 7) rfl))) (mvT hZ (hw _ (List.mem_of_getElem? (i := 6) rfl))) (by decide) (backOf (W := 0) (rm1n l Z av0 hw [] w_CSIP_2_1_0 h0 n0 Z0 F_CSIP_2_1_0) hZ (hw _ (List.mem_of_getElem? (i := 8) rfl)) (hw _ (List.mem_of_getElem? (i := 2) rfl)) (by decide) (by decide)) q8a q8c (g := (mkF m 96 #[.val (.int i0), .val (.int ((i0 &&& (2147483647 : Int32)) % (6 : Int32))), .val (.ref w_CSIP_2_1_0), .val (.ref w_CSIP_2_1_0)] [(.ref w_CSIP_2_1_0)])) rfl (by rw [hml]; rfl) (Steps.refl _) (argsL := []) (rest := []) (lenOf own_pd0 rfl) rfl (by show 2 * 0 + _ ≤ _; exact Nat.le_of_eq rfl) (hb hby at_96) (fun _ _ => ⟨rfl, e7, (by decide : 0 + 0 ≤ _), (by decide : 0 + 0 ≤ _)⟩)
      dsimp only [Pt.U, Pt.locs, Pt.cells, Pt.slots] at X8 l8 y8 z8 st8 hQ8
      subst l8 y8 z8
      obtain ⟨rfl, N8q, e8⟩ := hQ8
      have N8 := Fr.app N0 N8q
      refine OGo.of st8 ?_
      show OGo p e below _ (T8.setTop (mkF m 99 #[.val (.int i0), .val (.int ((i0 &&& (2147483647 : Int32)) % (6 : Int32))), .val (.ref w_CSIP_2_1_0), .val (.ref w_CSIP_2_1_0)] [(.ref w_CSIP_2_1_0)]))
      refine OGo.by (fun _ k => XS.aloadN X8.here hx rfl (hb hby at_99) rfl rfl k) ?_
      show OGo p e below _ (T8.setTop (mkF m 100 #[.val (.int i0), .val (.int ((i0 &&& (2147483647 : Int32)) % (6 : Int32))), .val (.ref w_CSIP_2_1_0), .val (.ref w_CSIP_2_1_0)] [(.ref w_CSIP_2_1_0), (.ref w_CSIP_2_1_0)]))
      refine OGo.by (fun _ k => Jvm.RoadKit.acmp (g := (mkF m 100 #[.val (.int i0), .val (.int ((i0 &&& (2147483647 : Int32)) % (6 : Int32))), .val (.ref w_CSIP_2_1_0), .val (.ref w_CSIP_2_1_0)] [(.ref w_CSIP_2_1_0), (.ref w_CSIP_2_1_0)])) X8 hx rfl rfl rfl (pc0 := 100) (pc' := 103) (same := true) rfl (hb hby at_100) rfl (decide_eq_true rfl) (by decide) (by decide) k) ?_
      show OGo p e below _ (T8.setTop (mkF m 103 #[.val (.int i0), .val (.int ((i0 &&& (2147483647 : Int32)) % (6 : Int32))), .val (.ref w_CSIP_2_1_0), .val (.ref w_CSIP_2_1_0)] []))
      refine OGo.by (fun _ k => XS.iconst X8.here hx rfl (hb hby at_103) k) ?_
      show OGo p e below _ (T8.setTop (mkF m 104 #[.val (.int i0), .val (.int ((i0 &&& (2147483647 : Int32)) % (6 : Int32))), .val (.ref w_CSIP_2_1_0), .val (.ref w_CSIP_2_1_0)] [(.int (1 : Int32))]))
      refine OGo.by (fun _ k => XS.goto X8.here hx rfl (pc0 := 104) (pc' := 108) rfl (hb hby at_104) (by decide) (by decide) k) ?_
      show OGo p e below _ (T8.setTop (mkF m 108 #[.val (.int i0), .val (.int ((i0 &&& (2147483647 : Int32)) % (6 : Int32))), .val (.ref w_CSIP_2_1_0), .val (.ref w_CSIP_2_1_0)] [(.int (1 : Int32))]))
      obtain ⟨fs, hr, hrun, hended, hW, hsame⟩ := X8.leave (v := some (.int (1 : Int32))) (fun h => by rw [Bd.returns] at h; cases h)
      refine OGo.ret (retN X8 hx (t := .boolean) Bd.returns (by simp) (hb hby at_108) hr) hrun hended ⟨_, _, rfl, ?_, ⟨_, rfl⟩, hW, hsame.mono (by decide) (by decide)⟩
      show Q_rm0 Z i0 w_CSIP_2_2_0 w_CSIP_2_1_0 w_CSIP_2_0_4 w_SIP_2_2_0 w_SIP_2_1_0 w_SIP_2_0_4 h0 n0 _ T8.heap _
      rw [e8]
      exact ⟨rfl, N8⟩
    · refine OGo.by (fun _ k => XS.icmpYes X0.here hx rfl (pc0 := 25) (pc' := 39) rfl (hb hby at_25) rfl (feq hc25_5).2 (by decide) (by decide) k) ?_
      show OGo p e below _ (s₁.setTop (mkF m 39 #[.val (.int i0), .val (.int ((i0 &&& (2147483647 : Int32)) % (6 : Int32))), .unset, .unset] []))
      refine OGo.by (fun _ k => XS.iloadN X0.here hx rfl (hb hby at_39) rfl k) ?_
      show OGo p e below _ (s₁.setTop (mkF m 40 #[.val (.int i0), .val (.int ((i0 &&& (2147483647 : Int32)) % (6 : Int32))), .unset, .unset] [(.int ((i0 &&& (2147483647 : Int32)) % (6 : Int32)))]))
      refine OGo.by (fun _ k => XS.iconst X0.here hx rfl (hb hby at_40) k) ?_
      show OGo p e below _ (s₁.setTop (mkF m 41 #[.val (.int i0), .val (.int ((i0 &&& (2147483647 : Int32)) % (6 : Int32))), .unset, .unset] [(.int (2 : Int32)), (.int ((i0 &&& (2147483647 : Int32)) % (6 : Int32)))]))
      by_cases hc41_9 : ((i0 &&& (2147483647 : Int32)) % (6 : Int32)) = (2 : Int32)
      · refine OGo.by (fun _ k => XS.icmpNo X0.here hx rfl (hb hby at_41) rfl (teq hc41_9).2 k) ?_
        show OGo p e below _ (s₁.setTop (mkF m 44 #[.val (.int i0), .val (.int ((i0 &&& (2147483647 : Int32)) % (6 : Int32))), .unset, .unset] []))
        obtain ⟨T10, X10, e10, st10⟩ := getS2 X0 hx hZ hown (host := "") (Or.inl (hw _ (List.mem_of_getElem? (i := 13) rfl))) Via.refl e0 S_CSIP_2_0_4 (g := (mkF m 44 #[.val (.int i0), .val (.int ((i0 &&& (2147483647 : Int32)) % (6 : Int32))), .unset, .unset] [])) rfl (hb hby at_44)
        refine OGo.by st10 ?_
        show OGo p e below _ (T10.setTop (mkF m 47 #[.val (.int i0), .val (.int ((i0 &&& (2147483647 : Int32)) % (6 : Int32))), .unset, .unset] [(.ref w_CSIP_2_0_4)]))
        refine OGo.by (fun _ k => XS.astoreN X10.here hx rfl (hb hby at_47) rfl rfl (l' := #[.val (.int i0), .val (.int ((i0 &&& (2147483647 : Int32)) % (6 : Int32))), .val (.ref w_CSIP_2_0_4), .unset]) rfl k) ?_
        show OGo p e below _ (T10.setTop (mkF m 48 #[.val (.int i0), .val (.int ((i0 &&& (2147483647 : Int32)) % (6 : Int32))), .val (.ref w_CSIP_2_0_4), .unset] []))
        obtain ⟨T11, X11, e11, st11⟩ := getS2 X10 hx hZ hown (host := "") (Or.inl (hw _ (List.mem_of_getElem? (i := 13) rfl))) Via.refl e10 S_CSIP_2_0_4 (g := (mkF m 48 #[.val (.int i0), .val (.int ((i0 &&& (2147483647 : Int32)) % (6 : Int32))), .val (.ref w_CSIP_2_0_4), .unset] [])) rfl (hb hby at_48)
        refine OGo.by st11 ?_
        show OGo p e below _ (T11.setTop (mkF m 51 #[.val (.int i0), .val (.int ((i0 &&& (2147483647 : Int32)) % (6 : Int32))), .val (.ref w_CSIP_2_0_4), .unset] [(.ref w_CSIP_2_0_4)]))
        refine OGo.by (fun _ k => XS.astoreN X11.here hx rfl (hb hby at_51) rfl rfl (l' := #[.val (.int i0), .val (.int ((i0 &&& (2147483647 : Int32)) % (6 : Int32))), .val (.ref w_CSIP_2_0_4), .val (.ref w_CSIP_2_0_4)]) rfl k) ?_
        show OGo p e below _ (T11.setTop (mkF m 52 #[.val (.int i0), .val (.int ((i0 &&& (2147483647 : Int32)) % (6 : Int32))), .val (.ref w_CSIP_2_0_4), .val (.ref w_CSIP_2_0_4)] []))
        refine OGo.by (fun _ k => XS.goto X11.here hx rfl (pc0 := 52) (pc' := 95) rfl (hb hby at_52) (by decide) (by decide) k) ?_
        show OGo p e below _ (T11.setTop (mkF m 95 #[.val (.int i0), .val (.int ((i0 &&& (2147483647 : Int32)) % (6 : Int32))), .val (.ref w_CSIP_2_0_4), .val (.ref w_CSIP_2_0_4)] []))
        refine OGo.by (fun _ k => XS.aloadN X11.here hx rfl (hb hby at_95) rfl rfl k) ?_
        show OGo p e below _ (T11.setTop (mkF m 96 #[.val (.int i0), .val (.int ((i0 &&& (2147483647 : Int32)) % (6 : Int32))), .val (.ref w_CSIP_2_0_4), .val (.ref w_CSIP_2_0_4)] [(.ref w_CSIP_2_0_4)]))
        obtain ⟨cq12, kq12, q12a, q12b, q12c⟩ := isOf hZ e11 E_CSIP_2_0_4
        obtain ⟨_, _, ⟨T12, L12, k12, n12⟩, -, X12, ⟨Lc12, hQ12, l12, y12, z12⟩, st12⟩ := X11.virtualBack hx (y := (⟨"com/example/packctl/packctl/Profile", "csip", "()Lcom/example/packctl/packctl/Profile;"⟩ : MethodName)) (z := (⟨"com/example/packctl/packctl/Profile", "csip", "()Lcom/example/packctl/packctl/Profile;"⟩ : MethodName)) hown (mvT hZ (hw _ (List.mem_of_getElem? (i := 4) rfl))) (mvT hZ (hw _ (List.mem_of_getElem? (i := 5) rfl))) (notFace_of_selects (args := #[]) (mvT hZ (hw _ (List.mem_of_getElem? (i := 7) rfl)))) (mvT hZ (hw _ (List.mem_of_getElem? (i := 7) rfl))) (mvT hZ (hw _ (List.mem_of_getElem? (i := 6) rfl))) (by decide) (backOf (W := 0) (rm1n l Z av0 hw [] w_CSIP_2_0_4 h0 n0 Z0 F_CSIP_2_0_4) hZ (hw _ (List.mem_of_getElem? (i := 8) rfl)) (hw _ (List.mem_of_getElem? (i := 2) rfl)) (by decide) (by decide)) q12a q12c (g := (mkF m 96 #[.val (.int i0), .val (.int ((i0 &&& (2147483647 : Int32)) % (6 : Int32))), .val (.ref w_CSIP_2_0_4), .val (.ref w_CSIP_2_0_4)] [(.ref w_CSIP_2_0_4)])) rfl (by rw [hml]; rfl) (Steps.refl _) (argsL := []) (rest := []) (lenOf own_pd0 rfl) rfl (by show 2 * 0 + _ ≤ _; exact Nat.le_of_eq rfl) (hb hby at_96) (fun _ _ => ⟨rfl, e11, (by decide : 0 + 0 ≤ _), (by decide : 0 + 0 ≤ _)⟩)
        dsimp only [Pt.U, Pt.locs, Pt.cells, Pt.slots] at X12 l12 y12 z12 st12 hQ12
        subst l12 y12 z12
        obtain ⟨rfl, N12q, e12⟩ := hQ12
        have N12 := Fr.app N0 N12q
        refine OGo.of st12 ?_
        show OGo p e below _ (T12.setTop (mkF m 99 #[.val (.int i0), .val (.int ((i0 &&& (2147483647 : Int32)) % (6 : Int32))), .val (.ref w_CSIP_2_0_4), .val (.ref w_CSIP_2_0_4)] [(.ref w_CSIP_2_0_4)]))
        refine OGo.by (fun _ k => XS.aloadN X12.here hx rfl (hb hby at_99) rfl rfl k) ?_
        show OGo p e below _ (T12.setTop (mkF m 100 #[.val (.int i0), .val (.int ((i0 &&& (2147483647 : Int32)) % (6 : Int32))), .val (.ref w_CSIP_2_0_4), .val (.ref w_CSIP_2_0_4)] [(.ref w_CSIP_2_0_4), (.ref w_CSIP_2_0_4)]))
        refine OGo.by (fun _ k => Jvm.RoadKit.acmp (g := (mkF m 100 #[.val (.int i0), .val (.int ((i0 &&& (2147483647 : Int32)) % (6 : Int32))), .val (.ref w_CSIP_2_0_4), .val (.ref w_CSIP_2_0_4)] [(.ref w_CSIP_2_0_4), (.ref w_CSIP_2_0_4)])) X12 hx rfl rfl rfl (pc0 := 100) (pc' := 103) (same := true) rfl (hb hby at_100) rfl (decide_eq_true rfl) (by decide) (by decide) k) ?_
        show OGo p e below _ (T12.setTop (mkF m 103 #[.val (.int i0), .val (.int ((i0 &&& (2147483647 : Int32)) % (6 : Int32))), .val (.ref w_CSIP_2_0_4), .val (.ref w_CSIP_2_0_4)] []))
        refine OGo.by (fun _ k => XS.iconst X12.here hx rfl (hb hby at_103) k) ?_
        show OGo p e below _ (T12.setTop (mkF m 104 #[.val (.int i0), .val (.int ((i0 &&& (2147483647 : Int32)) % (6 : Int32))), .val (.ref w_CSIP_2_0_4), .val (.ref w_CSIP_2_0_4)] [(.int (1 : Int32))]))
        refine OGo.by (fun _ k => XS.goto X12.here hx rfl (pc0 := 104) (pc' := 108) rfl (hb hby at_104) (by decide) (by decide) k) ?_
        show OGo p e below _ (T12.setTop (mkF m 108 #[.val (.int i0), .val (.int ((i0 &&& (2147483647 : Int32)) % (6 : Int32))), .val (.ref w_CSIP_2_0_4), .val (.ref w_CSIP_2_0_4)] [(.int (1 : Int32))]))
        obtain ⟨fs, hr, hrun, hended, hW, hsame⟩ := X12.leave (v := some (.int (1 : Int32))) (fun h => by rw [Bd.returns] at h; cases h)
        refine OGo.ret (retN X12 hx (t := .boolean) Bd.returns (by simp) (hb hby at_108) hr) hrun hended ⟨_, _, rfl, ?_, ⟨_, rfl⟩, hW, hsame.mono (by decide) (by decide)⟩
        show Q_rm0 Z i0 w_CSIP_2_2_0 w_CSIP_2_1_0 w_CSIP_2_0_4 w_SIP_2_2_0 w_SIP_2_1_0 w_SIP_2_0_4 h0 n0 _ T12.heap _
        rw [e12]
        exact ⟨rfl, N12⟩
      · refine OGo.by (fun _ k => XS.icmpYes X0.here hx rfl (pc0 := 41) (pc' := 55) rfl (hb hby at_41) rfl (feq hc41_9).2 (by decide) (by decide) k) ?_
        show OGo p e below _ (s₁.setTop (mkF m 55 #[.val (.int i0), .val (.int ((i0 &&& (2147483647 : Int32)) % (6 : Int32))), .unset, .unset] []))
        refine OGo.by (fun _ k => XS.iloadN X0.here hx rfl (hb hby at_55) rfl k) ?_
        show OGo p e below _ (s₁.setTop (mkF m 56 #[.val (.int i0), .val (.int ((i0 &&& (2147483647 : Int32)) % (6 : Int32))), .unset, .unset] [(.int ((i0 &&& (2147483647 : Int32)) % (6 : Int32)))]))
        refine OGo.by (fun _ k => XS.iconst X0.here hx rfl (hb hby at_56) k) ?_
        show OGo p e below _ (s₁.setTop (mkF m 57 #[.val (.int i0), .val (.int ((i0 &&& (2147483647 : Int32)) % (6 : Int32))), .unset, .unset] [(.int (3 : Int32)), (.int ((i0 &&& (2147483647 : Int32)) % (6 : Int32)))]))
        by_cases hc57_13 : ((i0 &&& (2147483647 : Int32)) % (6 : Int32)) = (3 : Int32)
        · refine OGo.by (fun _ k => XS.icmpNo X0.here hx rfl (hb hby at_57) rfl (teq hc57_13).2 k) ?_
          show OGo p e below _ (s₁.setTop (mkF m 60 #[.val (.int i0), .val (.int ((i0 &&& (2147483647 : Int32)) % (6 : Int32))), .unset, .unset] []))
          obtain ⟨T14, X14, e14, st14⟩ := getS2 X0 hx hZ hown (host := "") (Or.inl (hw _ (List.mem_of_getElem? (i := 11) rfl))) Via.refl e0 S_SIP_2_2_0 (g := (mkF m 60 #[.val (.int i0), .val (.int ((i0 &&& (2147483647 : Int32)) % (6 : Int32))), .unset, .unset] [])) rfl (hb hby at_60)
          refine OGo.by st14 ?_
          show OGo p e below _ (T14.setTop (mkF m 63 #[.val (.int i0), .val (.int ((i0 &&& (2147483647 : Int32)) % (6 : Int32))), .unset, .unset] [(.ref w_SIP_2_2_0)]))
          refine OGo.by (fun _ k => XS.astoreN X14.here hx rfl (hb hby at_63) rfl rfl (l' := #[.val (.int i0), .val (.int ((i0 &&& (2147483647 : Int32)) % (6 : Int32))), .val (.ref w_SIP_2_2_0), .unset]) rfl k) ?_
          show OGo p e below _ (T14.setTop (mkF m 64 #[.val (.int i0), .val (.int ((i0 &&& (2147483647 : Int32)) % (6 : Int32))), .val (.ref w_SIP_2_2_0), .unset] []))
          obtain ⟨T15, X15, e15, st15⟩ := getS2 X14 hx hZ hown (host := "") (Or.inl (hw _ (List.mem_of_getElem? (i := 1) rfl))) Via.refl e14 S_CSIP_2_2_0 (g := (mkF m 64 #[.val (.int i0), .val (.int ((i0 &&& (2147483647 : Int32)) % (6 : Int32))), .val (.ref w_SIP_2_2_0), .unset] [])) rfl (hb hby at_64)
          refine OGo.by st15 ?_
          show OGo p e below _ (T15.setTop (mkF m 67 #[.val (.int i0), .val (.int ((i0 &&& (2147483647 : Int32)) % (6 : Int32))), .val (.ref w_SIP_2_2_0), .unset] [(.ref w_CSIP_2_2_0)]))
          refine OGo.by (fun _ k => XS.astoreN X15.here hx rfl (hb hby at_67) rfl rfl (l' := #[.val (.int i0), .val (.int ((i0 &&& (2147483647 : Int32)) % (6 : Int32))), .val (.ref w_SIP_2_2_0), .val (.ref w_CSIP_2_2_0)]) rfl k) ?_
          show OGo p e below _ (T15.setTop (mkF m 68 #[.val (.int i0), .val (.int ((i0 &&& (2147483647 : Int32)) % (6 : Int32))), .val (.ref w_SIP_2_2_0), .val (.ref w_CSIP_2_2_0)] []))
          refine OGo.by (fun _ k => XS.goto X15.here hx rfl (pc0 := 68) (pc' := 95) rfl (hb hby at_68) (by decide) (by decide) k) ?_
          show OGo p e below _ (T15.setTop (mkF m 95 #[.val (.int i0), .val (.int ((i0 &&& (2147483647 : Int32)) % (6 : Int32))), .val (.ref w_SIP_2_2_0), .val (.ref w_CSIP_2_2_0)] []))
          refine OGo.by (fun _ k => XS.aloadN X15.here hx rfl (hb hby at_95) rfl rfl k) ?_
          show OGo p e below _ (T15.setTop (mkF m 96 #[.val (.int i0), .val (.int ((i0 &&& (2147483647 : Int32)) % (6 : Int32))), .val (.ref w_SIP_2_2_0), .val (.ref w_CSIP_2_2_0)] [(.ref w_SIP_2_2_0)]))
          obtain ⟨cq16, kq16, q16a, q16b, q16c⟩ := isOf hZ e15 E_SIP_2_2_0
          obtain ⟨_, _, ⟨T16, L16, k16, n16⟩, -, X16, ⟨Lc16, hQ16, l16, y16, z16⟩, st16⟩ := X15.virtualBack hx (y := (⟨"com/example/packctl/packctl/Profile", "csip", "()Lcom/example/packctl/packctl/Profile;"⟩ : MethodName)) (z := (⟨"com/example/packctl/packctl/Profile", "csip", "()Lcom/example/packctl/packctl/Profile;"⟩ : MethodName)) hown (mvT hZ (hw _ (List.mem_of_getElem? (i := 4) rfl))) (mvT hZ (hw _ (List.mem_of_getElem? (i := 5) rfl))) (notFace_of_selects (args := #[]) (mvT hZ (hw _ (List.mem_of_getElem? (i := 7) rfl)))) (mvT hZ (hw _ (List.mem_of_getElem? (i := 7) rfl))) (mvT hZ (hw _ (List.mem_of_getElem? (i := 6) rfl))) (by decide) (backOf (W := 0) (rm1s l Z av0 hw [] w_SIP_2_2_0 w_CSIP_2_2_0 h0 n0 Z0 F_SIP_2_2_0) hZ (hw _ (List.mem_of_getElem? (i := 8) rfl)) (hw _ (List.mem_of_getElem? (i := 2) rfl)) (by decide) (by decide)) q16a q16c (g := (mkF m 96 #[.val (.int i0), .val (.int ((i0 &&& (2147483647 : Int32)) % (6 : Int32))), .val (.ref w_SIP_2_2_0), .val (.ref w_CSIP_2_2_0)] [(.ref w_SIP_2_2_0)])) rfl (by rw [hml]; rfl) (Steps.refl _) (argsL := []) (rest := []) (lenOf own_pd0 rfl) rfl (by show 2 * 0 + _ ≤ _; exact Nat.le_of_eq rfl) (hb hby at_96) (fun _ _ => ⟨rfl, e15, (by decide : 0 + 0 ≤ _), (by decide : 0 + 0 ≤ _)⟩)
          dsimp only [Pt.U, Pt.locs, Pt.cells, Pt.slots] at X16 l16 y16 z16 st16 hQ16
          subst l16 y16 z16
          obtain ⟨rfl, N16q, e16⟩ := hQ16
          have N16 := Fr.app N0 N16q
          refine OGo.of st16 ?_
          show OGo p e below _ (T16.setTop (mkF m 99 #[.val (.int i0), .val (.int ((i0 &&& (2147483647 : Int32)) % (6 : Int32))), .val (.ref w_SIP_2_2_0), .val (.ref w_CSIP_2_2_0)] [(.ref w_CSIP_2_2_0)]))
          refine OGo.by (fun _ k => XS.aloadN X16.here hx rfl (hb hby at_99) rfl rfl k) ?_
          show OGo p e below _ (T16.setTop (mkF m 100 #[.val (.int i0), .val (.int ((i0 &&& (2147483647 : Int32)) % (6 : Int32))), .val (.ref w_SIP_2_2_0), .val (.ref w_CSIP_2_2_0)] [(.ref w_CSIP_2_2_0), (.ref w_CSIP_2_2_0)]))
          refine OGo.by (fun _ k => Jvm.RoadKit.acmp (g := (mkF m 100 #[.val (.int i0), .val (.int ((i0 &&& (2147483647 : Int32)) % (6 : Int32))), .val (.ref w_SIP_2_2_0), .val (.ref w_CSIP_2_2_0)] [(.ref w_CSIP_2_2_0), (.ref w_CSIP_2_2_0)])) X16 hx rfl rfl rfl (pc0 := 100) (pc' := 103) (same := true) rfl (hb hby at_100) rfl (decide_eq_true rfl) (by decide) (by decide) k) ?_
          show OGo p e below _ (T16.setTop (mkF m 103 #[.val (.int i0), .val (.int ((i0 &&& (2147483647 : Int32)) % (6 : Int32))), .val (.ref w_SIP_2_2_0), .val (.ref w_CSIP_2_2_0)] []))
          refine OGo.by (fun _ k => XS.iconst X16.here hx rfl (hb hby at_103) k) ?_
          show OGo p e below _ (T16.setTop (mkF m 104 #[.val (.int i0), .val (.int ((i0 &&& (2147483647 : Int32)) % (6 : Int32))), .val (.ref w_SIP_2_2_0), .val (.ref w_CSIP_2_2_0)] [(.int (1 : Int32))]))
          refine OGo.by (fun _ k => XS.goto X16.here hx rfl (pc0 := 104) (pc' := 108) rfl (hb hby at_104) (by decide) (by decide) k) ?_
          show OGo p e below _ (T16.setTop (mkF m 108 #[.val (.int i0), .val (.int ((i0 &&& (2147483647 : Int32)) % (6 : Int32))), .val (.ref w_SIP_2_2_0), .val (.ref w_CSIP_2_2_0)] [(.int (1 : Int32))]))
          obtain ⟨fs, hr, hrun, hended, hW, hsame⟩ := X16.leave (v := some (.int (1 : Int32))) (fun h => by rw [Bd.returns] at h; cases h)
          refine OGo.ret (retN X16 hx (t := .boolean) Bd.returns (by simp) (hb hby at_108) hr) hrun hended ⟨_, _, rfl, ?_, ⟨_, rfl⟩, hW, hsame.mono (by decide) (by decide)⟩
          show Q_rm0 Z i0 w_CSIP_2_2_0 w_CSIP_2_1_0 w_CSIP_2_0_4 w_SIP_2_2_0 w_SIP_2_1_0 w_SIP_2_0_4 h0 n0 _ T16.heap _
          rw [e16]
          exact ⟨rfl, N16⟩
        · refine OGo.by (fun _ k => XS.icmpYes X0.here hx rfl (pc0 := 57) (pc' := 71) rfl (hb hby at_57) rfl (feq hc57_13).2 (by decide) (by decide) k) ?_
          show OGo p e below _ (s₁.setTop (mkF m 71 #[.val (.int i0), .val (.int ((i0 &&& (2147483647 : Int32)) % (6 : Int32))), .unset, .unset] []))
          refine OGo.by (fun _ k => XS.iloadN X0.here hx rfl (hb hby at_71) rfl k) ?_
          show OGo p e below _ (s₁.setTop (mkF m 72 #[.val (.int i0), .val (.int ((i0 &&& (2147483647 : Int32)) % (6 : Int32))), .unset, .unset] [(.int ((i0 &&& (2147483647 : Int32)) % (6 : Int32)))]))
          refine OGo.by (fun _ k => XS.iconst X0.here hx rfl (hb hby at_72) k) ?_
          show OGo p e below _ (s₁.setTop (mkF m 73 #[.val (.int i0), .val (.int ((i0 &&& (2147483647 : Int32)) % (6 : Int32))), .unset, .unset] [(.int (4 : Int32)), (.int ((i0 &&& (2147483647 : Int32)) % (6 : Int32)))]))
          by_cases hc73_17 : ((i0 &&& (2147483647 : Int32)) % (6 : Int32)) = (4 : Int32)
          · refine OGo.by (fun _ k => XS.icmpNo X0.here hx rfl (hb hby at_73) rfl (teq hc73_17).2 k) ?_
            show OGo p e below _ (s₁.setTop (mkF m 76 #[.val (.int i0), .val (.int ((i0 &&& (2147483647 : Int32)) % (6 : Int32))), .unset, .unset] []))
            obtain ⟨T18, X18, e18, st18⟩ := getS2 X0 hx hZ hown (host := "") (Or.inl (hw _ (List.mem_of_getElem? (i := 19) rfl))) Via.refl e0 S_SIP_2_1_0 (g := (mkF m 76 #[.val (.int i0), .val (.int ((i0 &&& (2147483647 : Int32)) % (6 : Int32))), .unset, .unset] [])) rfl (hb hby at_76)
            refine OGo.by st18 ?_
            show OGo p e below _ (T18.setTop (mkF m 79 #[.val (.int i0), .val (.int ((i0 &&& (2147483647 : Int32)) % (6 : Int32))), .unset, .unset] [(.ref w_SIP_2_1_0)]))
            refine OGo.by (fun _ k => XS.astoreN X18.here hx rfl (hb hby at_79) rfl rfl (l' := #[.val (.int i0), .val (.int ((i0 &&& (2147483647 : Int32)) % (6 : Int32))), .val (.ref w_SIP_2_1_0), .unset]) rfl k) ?_
            show OGo p e below _ (T18.setTop (mkF m 80 #[.val (.int i0), .val (.int ((i0 &&& (2147483647 : Int32)) % (6 : Int32))), .val (.ref w_SIP_2_1_0), .unset] []))
            obtain ⟨T19, X19, e19, st19⟩ := getS2 X18 hx hZ hown (host := "") (Or.inl (hw _ (List.mem_of_getElem? (i := 15) rfl))) Via.refl e18 S_CSIP_2_1_0 (g := (mkF m 80 #[.val (.int i0), .val (.int ((i0 &&& (2147483647 : Int32)) % (6 : Int32))), .val (.ref w_SIP_2_1_0), .unset] [])) rfl (hb hby at_80)
            refine OGo.by st19 ?_
            show OGo p e below _ (T19.setTop (mkF m 83 #[.val (.int i0), .val (.int ((i0 &&& (2147483647 : Int32)) % (6 : Int32))), .val (.ref w_SIP_2_1_0), .unset] [(.ref w_CSIP_2_1_0)]))
            refine OGo.by (fun _ k => XS.astoreN X19.here hx rfl (hb hby at_83) rfl rfl (l' := #[.val (.int i0), .val (.int ((i0 &&& (2147483647 : Int32)) % (6 : Int32))), .val (.ref w_SIP_2_1_0), .val (.ref w_CSIP_2_1_0)]) rfl k) ?_
            show OGo p e below _ (T19.setTop (mkF m 84 #[.val (.int i0), .val (.int ((i0 &&& (2147483647 : Int32)) % (6 : Int32))), .val (.ref w_SIP_2_1_0), .val (.ref w_CSIP_2_1_0)] []))
            refine OGo.by (fun _ k => XS.goto X19.here hx rfl (pc0 := 84) (pc' := 95) rfl (hb hby at_84) (by decide) (by decide) k) ?_
            show OGo p e below _ (T19.setTop (mkF m 95 #[.val (.int i0), .val (.int ((i0 &&& (2147483647 : Int32)) % (6 : Int32))), .val (.ref w_SIP_2_1_0), .val (.ref w_CSIP_2_1_0)] []))
            refine OGo.by (fun _ k => XS.aloadN X19.here hx rfl (hb hby at_95) rfl rfl k) ?_
            show OGo p e below _ (T19.setTop (mkF m 96 #[.val (.int i0), .val (.int ((i0 &&& (2147483647 : Int32)) % (6 : Int32))), .val (.ref w_SIP_2_1_0), .val (.ref w_CSIP_2_1_0)] [(.ref w_SIP_2_1_0)]))
            obtain ⟨cq20, kq20, q20a, q20b, q20c⟩ := isOf hZ e19 E_SIP_2_1_0
            obtain ⟨_, _, ⟨T20, L20, k20, n20⟩, -, X20, ⟨Lc20, hQ20, l20, y20, z20⟩, st20⟩ := X19.virtualBack hx (y := (⟨"com/example/packctl/packctl/Profile", "csip", "()Lcom/example/packctl/packctl/Profile;"⟩ : MethodName)) (z := (⟨"com/example/packctl/packctl/Profile", "csip", "()Lcom/example/packctl/packctl/Profile;"⟩ : MethodName)) hown (mvT hZ (hw _ (List.mem_of_getElem? (i := 4) rfl))) (mvT hZ (hw _ (List.mem_of_getElem? (i := 5) rfl))) (notFace_of_selects (args := #[]) (mvT hZ (hw _ (List.mem_of_getElem? (i := 7) rfl)))) (mvT hZ (hw _ (List.mem_of_getElem? (i := 7) rfl))) (mvT hZ (hw _ (List.mem_of_getElem? (i := 6) rfl))) (by decide) (backOf (W := 0) (rm1s l Z av0 hw [] w_SIP_2_1_0 w_CSIP_2_1_0 h0 n0 Z0 F_SIP_2_1_0) hZ (hw _ (List.mem_of_getElem? (i := 8) rfl)) (hw _ (List.mem_of_getElem? (i := 2) rfl)) (by decide) (by decide)) q20a q20c (g := (mkF m 96 #[.val (.int i0), .val (.int ((i0 &&& (2147483647 : Int32)) % (6 : Int32))), .val (.ref w_SIP_2_1_0), .val (.ref w_CSIP_2_1_0)] [(.ref w_SIP_2_1_0)])) rfl (by rw [hml]; rfl) (Steps.refl _) (argsL := []) (rest := []) (lenOf own_pd0 rfl) rfl (by show 2 * 0 + _ ≤ _; exact Nat.le_of_eq rfl) (hb hby at_96) (fun _ _ => ⟨rfl, e19, (by decide : 0 + 0 ≤ _), (by decide : 0 + 0 ≤ _)⟩)
            dsimp only [Pt.U, Pt.locs, Pt.cells, Pt.slots] at X20 l20 y20 z20 st20 hQ20
            subst l20 y20 z20
            obtain ⟨rfl, N20q, e20⟩ := hQ20
            have N20 := Fr.app N0 N20q
            refine OGo.of st20 ?_
            show OGo p e below _ (T20.setTop (mkF m 99 #[.val (.int i0), .val (.int ((i0 &&& (2147483647 : Int32)) % (6 : Int32))), .val (.ref w_SIP_2_1_0), .val (.ref w_CSIP_2_1_0)] [(.ref w_CSIP_2_1_0)]))
            refine OGo.by (fun _ k => XS.aloadN X20.here hx rfl (hb hby at_99) rfl rfl k) ?_
            show OGo p e below _ (T20.setTop (mkF m 100 #[.val (.int i0), .val (.int ((i0 &&& (2147483647 : Int32)) % (6 : Int32))), .val (.ref w_SIP_2_1_0), .val (.ref w_CSIP_2_1_0)] [(.ref w_CSIP_2_1_0), (.ref w_CSIP_2_1_0)]))
            refine OGo.by (fun _ k => Jvm.RoadKit.acmp (g := (mkF m 100 #[.val (.int i0), .val (.int ((i0 &&& (2147483647 : Int32)) % (6 : Int32))), .val (.ref w_SIP_2_1_0), .val (.ref w_CSIP_2_1_0)] [(.ref w_CSIP_2_1_0), (.ref w_CSIP_2_1_0)])) X20 hx rfl rfl rfl (pc0 := 100) (pc' := 103) (same := true) rfl (hb hby at_100) rfl (decide_eq_true rfl) (by decide) (by decide) k) ?_
            show OGo p e below _ (T20.setTop (mkF m 103 #[.val (.int i0), .val (.int ((i0 &&& (2147483647 : Int32)) % (6 : Int32))), .val (.ref w_SIP_2_1_0), .val (.ref w_CSIP_2_1_0)] []))
            refine OGo.by (fun _ k => XS.iconst X20.here hx rfl (hb hby at_103) k) ?_
            show OGo p e below _ (T20.setTop (mkF m 104 #[.val (.int i0), .val (.int ((i0 &&& (2147483647 : Int32)) % (6 : Int32))), .val (.ref w_SIP_2_1_0), .val (.ref w_CSIP_2_1_0)] [(.int (1 : Int32))]))
            refine OGo.by (fun _ k => XS.goto X20.here hx rfl (pc0 := 104) (pc' := 108) rfl (hb hby at_104) (by decide) (by decide) k) ?_
            show OGo p e below _ (T20.setTop (mkF m 108 #[.val (.int i0), .val (.int ((i0 &&& (2147483647 : Int32)) % (6 : Int32))), .val (.ref w_SIP_2_1_0), .val (.ref w_CSIP_2_1_0)] [(.int (1 : Int32))]))
            obtain ⟨fs, hr, hrun, hended, hW, hsame⟩ := X20.leave (v := some (.int (1 : Int32))) (fun h => by rw [Bd.returns] at h; cases h)
            refine OGo.ret (retN X20 hx (t := .boolean) Bd.returns (by simp) (hb hby at_108) hr) hrun hended ⟨_, _, rfl, ?_, ⟨_, rfl⟩, hW, hsame.mono (by decide) (by decide)⟩
            show Q_rm0 Z i0 w_CSIP_2_2_0 w_CSIP_2_1_0 w_CSIP_2_0_4 w_SIP_2_2_0 w_SIP_2_1_0 w_SIP_2_0_4 h0 n0 _ T20.heap _
            rw [e20]
            exact ⟨rfl, N20⟩
          · refine OGo.by (fun _ k => XS.icmpYes X0.here hx rfl (pc0 := 73) (pc' := 87) rfl (hb hby at_73) rfl (feq hc73_17).2 (by decide) (by decide) k) ?_
            show OGo p e below _ (s₁.setTop (mkF m 87 #[.val (.int i0), .val (.int ((i0 &&& (2147483647 : Int32)) % (6 : Int32))), .unset, .unset] []))
            obtain ⟨T21, X21, e21, st21⟩ := getS2 X0 hx hZ hown (host := "") (Or.inl (hw _ (List.mem_of_getElem? (i := 17) rfl))) Via.refl e0 S_SIP_2_0_4 (g := (mkF m 87 #[.val (.int i0), .val (.int ((i0 &&& (2147483647 : Int32)) % (6 : Int32))), .unset, .unset] [])) rfl (hb hby at_87)
            refine OGo.by st21 ?_
            show OGo p e below _ (T21.setTop (mkF m 90 #[.val (.int i0), .val (.int ((i0 &&& (2147483647 : Int32)) % (6 : Int32))), .unset, .unset] [(.ref w_SIP_2_0_4)]))
            refine OGo.by (fun _ k => XS.astoreN X21.here hx rfl (hb hby at_90) rfl rfl (l' := #[.val (.int i0), .val (.int ((i0 &&& (2147483647 : Int32)) % (6 : Int32))), .val (.ref w_SIP_2_0_4), .unset]) rfl k) ?_
            show OGo p e below _ (T21.setTop (mkF m 91 #[.val (.int i0), .val (.int ((i0 &&& (2147483647 : Int32)) % (6 : Int32))), .val (.ref w_SIP_2_0_4), .unset] []))
            obtain ⟨T22, X22, e22, st22⟩ := getS2 X21 hx hZ hown (host := "") (Or.inl (hw _ (List.mem_of_getElem? (i := 13) rfl))) Via.refl e21 S_CSIP_2_0_4 (g := (mkF m 91 #[.val (.int i0), .val (.int ((i0 &&& (2147483647 : Int32)) % (6 : Int32))), .val (.ref w_SIP_2_0_4), .unset] [])) rfl (hb hby at_91)
            refine OGo.by st22 ?_
            show OGo p e below _ (T22.setTop (mkF m 94 #[.val (.int i0), .val (.int ((i0 &&& (2147483647 : Int32)) % (6 : Int32))), .val (.ref w_SIP_2_0_4), .unset] [(.ref w_CSIP_2_0_4)]))
            refine OGo.by (fun _ k => XS.astoreN X22.here hx rfl (hb hby at_94) rfl rfl (l' := #[.val (.int i0), .val (.int ((i0 &&& (2147483647 : Int32)) % (6 : Int32))), .val (.ref w_SIP_2_0_4), .val (.ref w_CSIP_2_0_4)]) rfl k) ?_
            show OGo p e below _ (T22.setTop (mkF m 95 #[.val (.int i0), .val (.int ((i0 &&& (2147483647 : Int32)) % (6 : Int32))), .val (.ref w_SIP_2_0_4), .val (.ref w_CSIP_2_0_4)] []))
            refine OGo.by (fun _ k => XS.aloadN X22.here hx rfl (hb hby at_95) rfl rfl k) ?_
            show OGo p e below _ (T22.setTop (mkF m 96 #[.val (.int i0), .val (.int ((i0 &&& (2147483647 : Int32)) % (6 : Int32))), .val (.ref w_SIP_2_0_4), .val (.ref w_CSIP_2_0_4)] [(.ref w_SIP_2_0_4)]))
            obtain ⟨cq23, kq23, q23a, q23b, q23c⟩ := isOf hZ e22 E_SIP_2_0_4
            obtain ⟨_, _, ⟨T23, L23, k23, n23⟩, -, X23, ⟨Lc23, hQ23, l23, y23, z23⟩, st23⟩ := X22.virtualBack hx (y := (⟨"com/example/packctl/packctl/Profile", "csip", "()Lcom/example/packctl/packctl/Profile;"⟩ : MethodName)) (z := (⟨"com/example/packctl/packctl/Profile", "csip", "()Lcom/example/packctl/packctl/Profile;"⟩ : MethodName)) hown (mvT hZ (hw _ (List.mem_of_getElem? (i := 4) rfl))) (mvT hZ (hw _ (List.mem_of_getElem? (i := 5) rfl))) (notFace_of_selects (args := #[]) (mvT hZ (hw _ (List.mem_of_getElem? (i := 7) rfl)))) (mvT hZ (hw _ (List.mem_of_getElem? (i := 7) rfl))) (mvT hZ (hw _ (List.mem_of_getElem? (i := 6) rfl))) (by decide) (backOf (W := 0) (rm1s l Z av0 hw [] w_SIP_2_0_4 w_CSIP_2_0_4 h0 n0 Z0 F_SIP_2_0_4) hZ (hw _ (List.mem_of_getElem? (i := 8) rfl)) (hw _ (List.mem_of_getElem? (i := 2) rfl)) (by decide) (by decide)) q23a q23c (g := (mkF m 96 #[.val (.int i0), .val (.int ((i0 &&& (2147483647 : Int32)) % (6 : Int32))), .val (.ref w_SIP_2_0_4), .val (.ref w_CSIP_2_0_4)] [(.ref w_SIP_2_0_4)])) rfl (by rw [hml]; rfl) (Steps.refl _) (argsL := []) (rest := []) (lenOf own_pd0 rfl) rfl (by show 2 * 0 + _ ≤ _; exact Nat.le_of_eq rfl) (hb hby at_96) (fun _ _ => ⟨rfl, e22, (by decide : 0 + 0 ≤ _), (by decide : 0 + 0 ≤ _)⟩)
            dsimp only [Pt.U, Pt.locs, Pt.cells, Pt.slots] at X23 l23 y23 z23 st23 hQ23
            subst l23 y23 z23
            obtain ⟨rfl, N23q, e23⟩ := hQ23
            have N23 := Fr.app N0 N23q
            refine OGo.of st23 ?_
            show OGo p e below _ (T23.setTop (mkF m 99 #[.val (.int i0), .val (.int ((i0 &&& (2147483647 : Int32)) % (6 : Int32))), .val (.ref w_SIP_2_0_4), .val (.ref w_CSIP_2_0_4)] [(.ref w_CSIP_2_0_4)]))
            refine OGo.by (fun _ k => XS.aloadN X23.here hx rfl (hb hby at_99) rfl rfl k) ?_
            show OGo p e below _ (T23.setTop (mkF m 100 #[.val (.int i0), .val (.int ((i0 &&& (2147483647 : Int32)) % (6 : Int32))), .val (.ref w_SIP_2_0_4), .val (.ref w_CSIP_2_0_4)] [(.ref w_CSIP_2_0_4), (.ref w_CSIP_2_0_4)]))
            refine OGo.by (fun _ k => Jvm.RoadKit.acmp (g := (mkF m 100 #[.val (.int i0), .val (.int ((i0 &&& (2147483647 : Int32)) % (6 : Int32))), .val (.ref w_SIP_2_0_4), .val (.ref w_CSIP_2_0_4)] [(.ref w_CSIP_2_0_4), (.ref w_CSIP_2_0_4)])) X23 hx rfl rfl rfl (pc0 := 100) (pc' := 103) (same := true) rfl (hb hby at_100) rfl (decide_eq_true rfl) (by decide) (by decide) k) ?_
            show OGo p e below _ (T23.setTop (mkF m 103 #[.val (.int i0), .val (.int ((i0 &&& (2147483647 : Int32)) % (6 : Int32))), .val (.ref w_SIP_2_0_4), .val (.ref w_CSIP_2_0_4)] []))
            refine OGo.by (fun _ k => XS.iconst X23.here hx rfl (hb hby at_103) k) ?_
            show OGo p e below _ (T23.setTop (mkF m 104 #[.val (.int i0), .val (.int ((i0 &&& (2147483647 : Int32)) % (6 : Int32))), .val (.ref w_SIP_2_0_4), .val (.ref w_CSIP_2_0_4)] [(.int (1 : Int32))]))
            refine OGo.by (fun _ k => XS.goto X23.here hx rfl (pc0 := 104) (pc' := 108) rfl (hb hby at_104) (by decide) (by decide) k) ?_
            show OGo p e below _ (T23.setTop (mkF m 108 #[.val (.int i0), .val (.int ((i0 &&& (2147483647 : Int32)) % (6 : Int32))), .val (.ref w_SIP_2_0_4), .val (.ref w_CSIP_2_0_4)] [(.int (1 : Int32))]))
            obtain ⟨fs, hr, hrun, hended, hW, hsame⟩ := X23.leave (v := some (.int (1 : Int32))) (fun h => by rw [Bd.returns] at h; cases h)
            refine OGo.ret (retN X23 hx (t := .boolean) Bd.returns (by simp) (hb hby at_108) hr) hrun hended ⟨_, _, rfl, ?_, ⟨_, rfl⟩, hW, hsame.mono (by decide) (by decide)⟩
            show Q_rm0 Z i0 w_CSIP_2_2_0 w_CSIP_2_1_0 w_CSIP_2_0_4 w_SIP_2_2_0 w_SIP_2_1_0 w_SIP_2_0_4 h0 n0 _ T23.heap _
            rw [e23]
            exact ⟨rfl, N23⟩
set_option maxRecDepth 65536 in
set_option maxHeartbeats 40000000 in
theorem comes_1 {Post : Tables → Env → Array Value → State → Outcome → State → Prop} (hpost : ∀ tb e args s v u, (limb_1_1.after args s (.returned v) u = true ∧ limb_1_2.after args s (.returned v) u = true ∧ True) → FrameEnd s (.returned v) u (Jvm.fieldLocs frame_1_writes args s ++ Jvm.arrayLocs frame_1_arrays args s ++ Jvm.staticLocs frame_1_statics s) 0 0 → Post tb e args s (.returned v) u) :
    ArmFor flags0 classFile x code maxLocals ret World_1 tables_1 room_1 Calls_1 rest_1 Pre_1 Post := by
  intro l hfl _ _ p e ha hc hk s m args below hf hA hF happ hP
  obtain ⟨hcalls, hrest, hpre⟩ := hP
  obtain ⟨-, -, -, hnamed, -, -, -, hat⟩ := (Spec.applies_iff hf).mp happ
  obtain ⟨hg, hn⟩ := and_e (Cond.before_iff.mp (show (Jvm.Cond.and given_1 narrow_1).before args s = true from hpre))
  obtain ⟨hg0, hgr⟩ := and_e hg
  obtain ⟨w0, rfl⟩ : ∃ w0 : Value, args = #[w0] := by
    have hs : args.size = 1 := by simpa [Cond.value, given_1] using hg0
    obtain ⟨L⟩ := args
    match L, hs with
    | [w0], _ => exact ⟨w0, rfl⟩
  have hw := fun d (hd : d ∈ tables_1) => atoms_spec (ws := Jvm.Cond.code x code maxLocals ret :: tables_1) hat d (List.mem_cons_of_mem _ hd)
  have hfit : Fit s := fun {y c} hc i hi => by
    obtain ⟨ha, rfl⟩ := Array.getElem?_eq_some_iff.mp hc
    have q := List.all_eq_true.mp ((Array.all_eq_true_iff_forall_mem.mp hF) _ (Array.getElem_mem ha)) i (List.mem_range.mpr hi)
    simpa [Array.getElem?_eq_getElem hi] using q
  obtain ⟨i0, ei0⟩ := is_v hgr
  obtain rfl : w0 = (.int i0) := Option.some.inj ei0
  obtain ⟨na1, nb1⟩ := and_e hn
  obtain ⟨na2, nb2⟩ := and_e nb1
  obtain ⟨na3, nb3⟩ := and_e nb2
  obtain ⟨na4, nb4⟩ := and_e nb3
  obtain ⟨na5, nb5⟩ := and_e nb4
  obtain ⟨na6, nb6⟩ := and_e nb5
  obtain ⟨na7, nb7⟩ := and_e nb6
  obtain ⟨na8, nb8⟩ := and_e nb7
  obtain ⟨na9, nb9⟩ := and_e nb8
  obtain ⟨na10, nb10⟩ := and_e nb9
  obtain ⟨na11, nb11⟩ := and_e nb10
  obtain ⟨w_CSIP_2_2_0, v_CSIP_2_2_0⟩ := exa_v na1
  have S_CSIP_2_2_0 := Sta.start v_CSIP_2_2_0 (Or.inr ⟨(hw _ (List.mem_of_getElem? (i := 2) rfl)), (hw _ (List.mem_of_getElem? (i := 3) rfl))⟩)
  have E_CSIP_2_2_0 := Exa.start v_CSIP_2_2_0 na1
  obtain ⟨w_SIP_2_2_0, v_SIP_2_2_0⟩ := exa_v na3
  have S_SIP_2_2_0 := Sta.start v_SIP_2_2_0 (Or.inr ⟨(hw _ (List.mem_of_getElem? (i := 2) rfl)), (hw _ (List.mem_of_getElem? (i := 12) rfl))⟩)
  have E_SIP_2_2_0 := Exa.start v_SIP_2_2_0 na3
  obtain ⟨w_CSIP_2_0_4, v_CSIP_2_0_4⟩ := exa_v na5
  have S_CSIP_2_0_4 := Sta.start v_CSIP_2_0_4 (Or.inr ⟨(hw _ (List.mem_of_getElem? (i := 2) rfl)), (hw _ (List.mem_of_getElem? (i := 14) rfl))⟩)
  have E_CSIP_2_0_4 := Exa.start v_CSIP_2_0_4 na5
  obtain ⟨w_CSIP_2_1_0, v_CSIP_2_1_0⟩ := exa_v na7
  have S_CSIP_2_1_0 := Sta.start v_CSIP_2_1_0 (Or.inr ⟨(hw _ (List.mem_of_getElem? (i := 2) rfl)), (hw _ (List.mem_of_getElem? (i := 16) rfl))⟩)
  have E_CSIP_2_1_0 := Exa.start v_CSIP_2_1_0 na7
  obtain ⟨w_SIP_2_0_4, v_SIP_2_0_4⟩ := exa_v na9
  have S_SIP_2_0_4 := Sta.start v_SIP_2_0_4 (Or.inr ⟨(hw _ (List.mem_of_getElem? (i := 2) rfl)), (hw _ (List.mem_of_getElem? (i := 18) rfl))⟩)
  have E_SIP_2_0_4 := Exa.start v_SIP_2_0_4 na9
  obtain ⟨w_SIP_2_1_0, v_SIP_2_1_0⟩ := exa_v na11
  have S_SIP_2_1_0 := Sta.start v_SIP_2_1_0 (Or.inr ⟨(hw _ (List.mem_of_getElem? (i := 2) rfl)), (hw _ (List.mem_of_getElem? (i := 20) rfl))⟩)
  have E_SIP_2_1_0 := Exa.start v_SIP_2_1_0 na11
  have F_CSIP_2_2_0 := Fld.start ((fld_at v_CSIP_2_2_0).symm.trans (null_v na2))
  have F_SIP_2_2_0 := Fld.start ((fld_at v_SIP_2_2_0).symm.trans (own_eqR v_CSIP_2_2_0 na4))
  have F_CSIP_2_0_4 := Fld.start ((fld_at v_CSIP_2_0_4).symm.trans (null_v na6))
  have F_CSIP_2_1_0 := Fld.start ((fld_at v_CSIP_2_1_0).symm.trans (null_v na8))
  have F_SIP_2_0_4 := Fld.start ((fld_at v_SIP_2_0_4).symm.trans (own_eqR v_CSIP_2_0_4 na10))
  have F_SIP_2_1_0 := Fld.start ((fld_at v_SIP_2_1_0).symm.trans (own_eqR v_CSIP_2_1_0 nb11))
  obtain ⟨n, o, h1, h2, h3, _, L, rfl, ⟨rfl, N⟩, hq⟩ := rm0 l s _ hw tables_1 i0 w_CSIP_2_2_0 w_CSIP_2_1_0 w_CSIP_2_0_4 w_SIP_2_2_0 w_SIP_2_1_0 w_SIP_2_0_4 s.heap s.heap.size (Nat.le_refl _) S_CSIP_2_2_0 S_CSIP_2_1_0 S_CSIP_2_0_4 S_SIP_2_2_0 S_SIP_2_1_0 S_SIP_2_0_4 E_CSIP_2_2_0 E_CSIP_2_1_0 E_CSIP_2_0_4 E_SIP_2_2_0 E_SIP_2_1_0 E_SIP_2_0_4 F_CSIP_2_2_0 F_CSIP_2_1_0 F_CSIP_2_0_4 F_SIP_2_2_0 F_SIP_2_1_0 F_SIP_2_0_4 p e ha hc hk s m _ below hf ((Spec.applies_iff_loose hf).mp happ).1 ⟨rfl, State.Warmed39.refl s, rfl⟩ trivial
  refine ⟨n, _, h1, h2, h3, hpost _ _ _ _ _ _ ⟨Cond.after_iff.mpr rfl, Cond.after_iff.mpr (eq_i res_at (Term.int_eval (1)) rfl), trivial⟩ ⟨hq.1, hq.2.1, (hq.2.2.sift fun y hy => Or.inr (N y hy)).mono (by decide) (by decide)⟩⟩
theorem main_1_1 : Claimed_1_1 := comes_1 fun _ _ _ _ _ _ h hF => ⟨h.1, hF⟩
theorem main_1_2 : Claimed_1_2 := comes_1 fun _ _ _ _ _ _ h hF => ⟨h.2.1, hF⟩
end Jvm.Pilot.@@N@@
namespace Jvm.Pilot.@@N@@
open Jvm Jvm.ClassFile Sem Op Lib Jvm.Free Jvm.Stand Jvm.Pilot.@@N@@.Jvm.D
/-! MADE BY PROGRAM (witnessworld.py) out of the Statement's table words and the real class files: 12 classes; the members and pool entries that the words name. The judged class is class 1, her method 1. -/
namespace start1
open Jvm.ClassFile
def u (s : String) : CpInfo := .utf8 (stringToUtf16 s)
/-- a pool by its gaps: so many unusable entries, then the entry; so many at the end -/
def gap : Nat → List CpInfo → List CpInfo
  | 0, r => r
  | n + 1, r => .unusable :: gap n r
def poolList (es : List (Nat × CpInfo)) (last : Nat) : List CpInfo := es.foldr (fun e r => gap e.1 (e.2 :: r)) (gap last [])
def pool (es : List (Nat × CpInfo)) (last : Nat) : Array CpInfo := ⟨poolList es last⟩
def fileOf (pool : Array CpInfo) (this : Nat) (attrs : Array Attribute := #[]) (ms : Array MethodInfo := #[]) (fl : Nat := 33) (sup : Nat := 0) (ifs : Array Nat := #[]) (fds : Array FieldInfo := #[]) : ClassFile where
  minorVersion := 0
  majorVersion := 65
  constantPool := pool
  accessFlags := fl
  thisClass := this
  superClass := sup
  interfaces := ifs
  fields := fds
  methods := ms
  attributes := attrs
def plain (name : String) (sup : Option ClassId) : Class where
  name := name
  kind := .ordinary
  loader := none
  accessFlags := 33
  super := sup
  interfaces := #[]
  cf := none
  fields := #[]
  methods := #[]
  instanceTypes := #[]
  staticTypes := #[]
  resolved := #[]
  callSites := []
  init := .initialized
  statics := none
  mirror := none

def pool0 : Array CpInfo := pool [(5, u "<init>"), (0, u "()V"), (1, .class_ 10), (1, u "java/lang/Object")] 113

def k0m0 : Method := { name := "<init>", desc := "()V", sig := { parameters := [], returnType := none }, accessFlags := 1, code := none }
/-- java/lang/Object -/
def k0 : Class := { plain "java/lang/Object" none with
  accessFlags := 33
  interfaces := #[]
  cf := some (fileOf pool0 8 #[] #[{ accessFlags := 1, nameIndex := 5, descriptorIndex := 6, attributes := #[] }] 33 0 #[] #[])
  fields := #[]
  methods := #[k0m0]
  instanceTypes := #[]
  staticTypes := #[]
  resolved := Array.replicate 124 none
  statics := none }

def pool1 : Array CpInfo := pool [(2, .class_ 4), (1, u "java/lang/Object"), (0, u "<init>"), (0, u "()V"), (0, .integer 2147483647), (0, .fieldref 9 10), (0, .class_ 11), (0, .nameAndType 12 13), (0, u "com/example/packctl/packctl/Profile"), (0, u "CSIP_2_2_0"), (0, u "Lcom/example/packctl/packctl/Profile;"), (0, .fieldref 9 15), (0, .nameAndType 16 13), (0, u "CSIP_2_1_0"), (0, .fieldref 9 18), (0, .nameAndType 19 13), (0, u "CSIP_2_0_4"), (0, .fieldref 9 21), (0, .nameAndType 22 13), (0, u "SIP_2_2_0"), (0, .fieldref 9 24), (0, .nameAndType 25 13), (0, u "SIP_2_1_0"), (0, .fieldref 9 27), (0, .nameAndType 28 13), (0, u "SIP_2_0_4"), (0, .methodref 9 30), (0, .nameAndType 31 32), (0, u "csip"), (0, u "()Lcom/example/packctl/packctl/Profile;"), (0, .class_ 34), (0, u "com/example/packctl/packctl/ProfileCsipPinLaw"), (2, u "law"), (0, u "(I)Z")] 3

def k1m0 : Method := { name := "<init>", desc := "()V", sig := { parameters := [], returnType := none }, accessFlags := 2, code := none }
def k1c1 : Code := { maxStack := 2, maxLocals := 4, code := code, exceptionTable := #[], attributes := #[] }
def k1m1 : Method := { name := "law", desc := "(I)Z", sig := { parameters := [.int], returnType := some .boolean }, accessFlags := 9, code := some k1c1 }
/-- com/example/packctl/packctl/ProfileCsipPinLaw -/
def k1 : Class := { plain "com/example/packctl/packctl/ProfileCsipPinLaw" (some 0) with
  accessFlags := 49
  interfaces := #[]
  cf := some (fileOf pool1 33 #[] #[{ accessFlags := 2, nameIndex := 5, descriptorIndex := 6, attributes := #[] }, { accessFlags := 9, nameIndex := 37, descriptorIndex := 38, attributes := #[] }] 49 2 #[] #[])
  fields := #[]
  methods := #[k1m0, k1m1]
  instanceTypes := #[]
  staticTypes := #[]
  resolved := Array.replicate 42 none
  statics := none }

def pool2 : Array CpInfo := pool [(1, .class_ 2), (0, u "java/lang/constant/Constable"), (0, .class_ 4), (0, u "java/lang/Object")] 6

/-- java/lang/constant/Constable -/
def k2 : Class := { plain "java/lang/constant/Constable" (some 0) with
  accessFlags := 1537
  interfaces := #[]
  cf := some (fileOf pool2 1 #[] #[] 1537 3 #[] #[])
  fields := #[]
  methods := #[]
  instanceTypes := #[]
  staticTypes := #[]
  resolved := Array.replicate 11 none
  statics := none }

def pool3 : Array CpInfo := pool [(1, .class_ 2), (0, u "java/lang/Comparable"), (0, .class_ 4), (0, u "java/lang/Object")] 7

/-- java/lang/Comparable -/
def k3 : Class := { plain "java/lang/Comparable" (some 0) with
  accessFlags := 1537
  interfaces := #[]
  cf := some (fileOf pool3 1 #[] #[] 1537 3 #[] #[])
  fields := #[]
  methods := #[]
  instanceTypes := #[]
  staticTypes := #[]
  resolved := Array.replicate 12 none
  statics := none }

def pool4 : Array CpInfo := pool [(1, .class_ 2), (0, u "java/io/Serializable"), (0, .class_ 4), (0, u "java/lang/Object")] 2

/-- java/io/Serializable -/
def k4 : Class := { plain "java/io/Serializable" (some 0) with
  accessFlags := 1537
  interfaces := #[]
  cf := some (fileOf pool4 1 #[] #[] 1537 3 #[] #[])
  fields := #[]
  methods := #[]
  instanceTypes := #[]
  staticTypes := #[]
  resolved := Array.replicate 7 none
  statics := none }

def pool5 : Array CpInfo := pool [(2, .class_ 4), (1, u "java/lang/Enum"), (0, u "name"), (0, u "Ljava/lang/String;"), (2, u "ordinal"), (0, u "I"), (1, .class_ 14), (1, u "java/lang/Object"), (4, u "hash"), (86, .class_ 108), (1, u "java/lang/Enum$EnumDesc"), (2, .class_ 112), (0, u "java/lang/constant/Constable"), (0, .class_ 114), (0, u "java/lang/Comparable"), (0, .class_ 116), (0, u "java/io/Serializable")] 87

/-- java/lang/Enum -/
def k5 : Class := { plain "java/lang/Enum" (some 0) with
  accessFlags := 1057
  interfaces := #[2, 3, 4]
  cf := some (fileOf pool5 2 #[.nestMembers #[106]] #[] 1057 12 #[111, 113, 115] #[{ accessFlags := 18, nameIndex := 5, descriptorIndex := 6, attributes := #[] }, { accessFlags := 18, nameIndex := 9, descriptorIndex := 10, attributes := #[] }, { accessFlags := 2, nameIndex := 19, descriptorIndex := 10, attributes := #[] }])
  fields := #[{ name := "name", type := (.object "java/lang/String"), accessFlags := 18, slot := 0, constantValue := 0 }, { name := "ordinal", type := .int, accessFlags := 18, slot := 1, constantValue := 0 }, { name := "hash", type := .int, accessFlags := 2, slot := 2, constantValue := 0 }]
  methods := #[]
  instanceTypes := #[(.object "java/lang/String"), .int, .int]
  staticTypes := #[]
  resolved := Array.replicate 204 none
  statics := none }

def pool6 : Array CpInfo := pool [(1, .class_ 2), (0, u "com/example/packctl/packctl/Profile"), (2, u "CSIP_2_2_0"), (0, u "Lcom/example/packctl/packctl/Profile;"), (2, u "CSIP_2_1_0"), (2, u "CSIP_2_0_4"), (2, u "SIP_2_2_0"), (2, u "SIP_2_1_0"), (2, u "SIP_2_0_4"), (2, u "$VALUES"), (0, u "[Lcom/example/packctl/packctl/Profile;"), (6, .class_ 34), (1, u "java/lang/Enum"), (11, u "id"), (0, u "Ljava/lang/String;"), (0, .fieldref 1 49), (0, .nameAndType 50 6), (0, u "csip"), (2, u "uri"), (60, u "CSIP_URI"), (13, u "()Lcom/example/packctl/packctl/Profile;")] 29

def k6c0 : Code := { maxStack := 1, maxLocals := 1, code := prog_85_method_8_code, exceptionTable := #[], attributes := #[] }
def k6m0 : Method := { name := "csip", desc := "()Lcom/example/packctl/packctl/Profile;", sig := { parameters := [], returnType := some (.object "com/example/packctl/packctl/Profile") }, accessFlags := 1, code := some k6c0 }
/-- com/example/packctl/packctl/Profile -/
def k6 : Class := { plain "com/example/packctl/packctl/Profile" (some 5) with
  accessFlags := 16433
  interfaces := #[]
  cf := some (fileOf pool6 1 #[] #[{ accessFlags := 1, nameIndex := 50, descriptorIndex := 128, attributes := #[] }] 16433 32 #[] #[{ accessFlags := 16409, nameIndex := 5, descriptorIndex := 6, attributes := #[] }, { accessFlags := 16409, nameIndex := 9, descriptorIndex := 6, attributes := #[] }, { accessFlags := 16409, nameIndex := 12, descriptorIndex := 6, attributes := #[] }, { accessFlags := 16409, nameIndex := 15, descriptorIndex := 6, attributes := #[] }, { accessFlags := 16409, nameIndex := 18, descriptorIndex := 6, attributes := #[] }, { accessFlags := 16409, nameIndex := 21, descriptorIndex := 6, attributes := #[] }, { accessFlags := 26, nameIndex := 114, descriptorIndex := 47, attributes := #[] }, { accessFlags := 18, nameIndex := 46, descriptorIndex := 47, attributes := #[] }, { accessFlags := 18, nameIndex := 50, descriptorIndex := 6, attributes := #[] }, { accessFlags := 18, nameIndex := 53, descriptorIndex := 47, attributes := #[] }, { accessFlags := 4122, nameIndex := 24, descriptorIndex := 25, attributes := #[] }])
  fields := #[{ name := "CSIP_2_2_0", type := (.object "com/example/packctl/packctl/Profile"), accessFlags := 16409, slot := 0, constantValue := 0 }, { name := "CSIP_2_1_0", type := (.object "com/example/packctl/packctl/Profile"), accessFlags := 16409, slot := 1, constantValue := 0 }, { name := "CSIP_2_0_4", type := (.object "com/example/packctl/packctl/Profile"), accessFlags := 16409, slot := 2, constantValue := 0 }, { name := "SIP_2_2_0", type := (.object "com/example/packctl/packctl/Profile"), accessFlags := 16409, slot := 3, constantValue := 0 }, { name := "SIP_2_1_0", type := (.object "com/example/packctl/packctl/Profile"), accessFlags := 16409, slot := 4, constantValue := 0 }, { name := "SIP_2_0_4", type := (.object "com/example/packctl/packctl/Profile"), accessFlags := 16409, slot := 5, constantValue := 0 }, { name := "CSIP_URI", type := (.object "java/lang/String"), accessFlags := 26, slot := 6, constantValue := 0 }, { name := "id", type := (.object "java/lang/String"), accessFlags := 18, slot := 3, constantValue := 0 }, { name := "csip", type := (.object "com/example/packctl/packctl/Profile"), accessFlags := 18, slot := 4, constantValue := 0 }, { name := "uri", type := (.object "java/lang/String"), accessFlags := 18, slot := 5, constantValue := 0 }, { name := "$VALUES", type := (.array (.object "com/example/packctl/packctl/Profile")), accessFlags := 4122, slot := 7, constantValue := 0 }]
  methods := #[k6m0]
  instanceTypes := #[(.object "java/lang/String"), .int, .int, (.object "java/lang/String"), (.object "com/example/packctl/packctl/Profile"), (.object "java/lang/String")]
  staticTypes := #[(.object "com/example/packctl/packctl/Profile"), (.object "com/example/packctl/packctl/Profile"), (.object "com/example/packctl/packctl/Profile"), (.object "com/example/packctl/packctl/Profile"), (.object "com/example/packctl/packctl/Profile"), (.object "com/example/packctl/packctl/Profile"), (.object "java/lang/String"), (.array (.object "com/example/packctl/packctl/Profile"))]
  resolved := Array.replicate 158 none
  statics := some 0 }

def pool7 : Array CpInfo := pool [(1, u "java/lang/Cloneable"), (0, .class_ 1), (0, u "java/lang/Object"), (0, .class_ 3)] 3

/-- java/lang/Cloneable -/
def k7 : Class := { plain "java/lang/Cloneable" (some 0) with
  accessFlags := 1537
  interfaces := #[]
  cf := some (fileOf pool7 2 #[] #[] 1537 4 #[] #[])
  fields := #[]
  methods := #[]
  instanceTypes := #[]
  staticTypes := #[]
  resolved := Array.replicate 8 none
  statics := none }

/-- the primitive byte -/
def k8 : Class := { plain "byte" none with kind := .primitive 'B', accessFlags := 0x411 }
/-- [B -/
def k9 : Class := { plain "[B" (some 0) with kind := .array 8 .byte, interfaces := #[7, 4], accessFlags := 1041 }

/-- the primitive int -/
def k10 : Class := { plain "int" none with kind := .primitive 'I', accessFlags := 0x411 }
/-- [I -/
def k11 : Class := { plain "[I" (some 0) with kind := .array 10 .int, interfaces := #[7, 4], accessFlags := 1041 }

def heap : Heap := #[{ cls := 6, slots := #[.ref 1, .ref 2, .ref 3, .ref 4, .ref 5, .ref 6, .null, .null], vm := .statics 6 },
  { cls := 6, slots := #[.null, .int 0, .int 0, .null, .null, .null], vm := .none },
  { cls := 6, slots := #[.null, .int 1, .int 0, .null, .null, .null], vm := .none },
  { cls := 6, slots := #[.null, .int 2, .int 0, .null, .null, .null], vm := .none },
  { cls := 6, slots := #[.null, .int 3, .int 0, .null, .ref 1, .null], vm := .none },
  { cls := 6, slots := #[.null, .int 4, .int 0, .null, .ref 2, .null], vm := .none },
  { cls := 6, slots := #[.null, .int 5, .int 0, .null, .ref 3, .null], vm := .none }]
def classes : Array Class := #[k0, k1, k2, k3, k4, k5, k6, k7, k8, k9, k10, k11]
def interned : List (Array UInt16 × Addr) := []
def slotsUsed : Nat := 44
def theMethod : MethodId := ⟨1, 1⟩
def args0 : Array Value := #[.int 3]
def aboutOver (below : List Frame) : State where
  vm := { classes := classes, interned := interned.toArray }
  heap := heap
  slotsUsed := slotsUsed
  threads := #[{ frames := .invoking theMethod args0 :: below }]
def below0 : List Frame := [.native { method := ⟨0, 0⟩, args := #[] }]
def about1 : State := aboutOver below0
def p0 : Program := .bare "" "" ""
def e0 : Env := launch0.env 0 0 0
theorem w_frames : about1.frames = Frame.invoking theMethod args0 :: below0 := rfl
set_option maxRecDepth 65536 in
theorem w_args : argsFit about1.vm theMethod args0 = true := by decide +kernel
set_option maxRecDepth 65536 in
theorem w_heap : heapFits about1 = true := by decide +kernel
set_option maxRecDepth 65536 in
theorem w_runnable : about1.curStatus? = some .runnable := by decide +kernel
set_option maxRecDepth 65536 in
theorem w_alone : about1.alone = true := by decide +kernel
set_option maxRecDepth 65536 in
theorem w_named : about1.methodNamed? x = some theMethod := by decide +kernel
set_option maxRecDepth 65536 in
theorem w_hears : about1.hears theMethod below0 = true := by decide +kernel
set_option maxRecDepth 65536 in
theorem w_ripe : about1.ripe theMethod args0 below0 = true := by decide +kernel
theorem w_running : about1.status = .running := rfl
set_option maxRecDepth 65536 in
theorem w_room : about1.hasRoom e0.platform room_1 = true :=
  launch0.hasRoom_least _ room_1 (by decide +kernel) (by decide +kernel) (by decide +kernel) (by decide +kernel) (by decide +kernel) (by decide +kernel)
theorem allAtoms_all (ts : List Jvm.Cond) (a : Array Jvm.Value) (st : Jvm.State) : (allAtoms ts).before a st = ts.all (fun c => c.before a st) := by
  induction ts with
  | nil => rfl
  | cons c t ih =>
    show (Jvm.Cond.and c (allAtoms t)).before a st = _
    rw [Jvm.Cond.before_and, ih, List.all_cons]
def words1 : List Jvm.Cond := Jvm.Cond.code x code maxLocals ret :: tables_1
/-- a 'code' word, met by the world's own term for the bytes: nothing is compared byte by byte -/
theorem code_word {y : MethodName} {bytes : ByteArray} {mx : Nat} {rt : Option FieldType} {a : Array Value} {s : State} {m : MethodId} {meth : Method} {c : Code} (h1 : s.methodNamed? y = some m) (h2 : s.vm.method? m = some meth) (h3 : meth.code = some c) (h4 : c.code = bytes)
    (h5 : (c.maxLocals == mx && c.exceptionTable.isEmpty && decide (c.maxStack ≤ mostOperands) && decide (meth.sig.returnType = rt) && !meth.locks && decide (parseMethodDescriptor y.desc = some meth.sig)) = true) : (Jvm.Cond.code y bytes mx rt).before a s = true := by
  simp only [Bool.and_eq_true, beq_iff_eq, Bool.not_eq_true', decide_eq_true_eq] at h5
  obtain ⟨⟨⟨⟨⟨g1, g2⟩, g3⟩, g4⟩, g5⟩, g6⟩ := h5
  simp [Cond.before, Cond.holds, Cond.value, h1, h2, h3, h4, g1, g2, g3, g4, g5, g6]
def isCode : Jvm.Cond → Bool
  | .code _ _ _ _ => true
  | _ => false
theorem all_split {L : List Jvm.Cond} {P : Jvm.Cond → Bool} (h1 : L.all (fun c => isCode c || P c) = true) (h2 : ∀ c ∈ L.filter isCode, P c = true) : L.all P = true := by
  refine List.all_eq_true.mpr fun c hc => ?_
  have h := List.all_eq_true.mp h1 c hc
  rcases Bool.eq_false_or_eq_true (isCode c) with hi | hi
  · exact h2 c (List.mem_filter.mpr ⟨hc, hi⟩)
  · simpa [hi] using h
set_option maxRecDepth 65536 in
theorem w_c0 : (Jvm.Cond.code x code maxLocals ret).before args0 about1 = true := code_word (m := ⟨1, 1⟩) (meth := k1m1) (c := k1c1) (by decide +kernel) rfl rfl rfl (by decide +kernel)
set_option maxRecDepth 65536 in
theorem w_c1 : (Jvm.Cond.code ({ cls := "com/example/packctl/packctl/Profile", name := "csip", desc := "()Lcom/example/packctl/packctl/Profile;" } : Jvm.MethodName) prog_85_method_8_code (1 : Nat) (Option.some (Jvm.ClassFile.FieldType.object "com/example/packctl/packctl/Profile"))).before args0 about1 = true := code_word (m := ⟨6, 0⟩) (meth := k6m0) (c := k6c0) (by decide +kernel) rfl rfl rfl (by decide +kernel)
def codes1 : List Jvm.Cond := [Jvm.Cond.code x code maxLocals ret, Jvm.Cond.code ({ cls := "com/example/packctl/packctl/Profile", name := "csip", desc := "()Lcom/example/packctl/packctl/Profile;" } : Jvm.MethodName) prog_85_method_8_code (1 : Nat) (Option.some (Jvm.ClassFile.FieldType.object "com/example/packctl/packctl/Profile"))]
set_option maxRecDepth 65536 in
theorem codes_eq : words1.filter isCode = codes1 := rfl
theorem w_codes : ∀ c ∈ words1.filter isCode, c.before args0 about1 = true := by
  rw [codes_eq]
  intro c hc
  simp only [codes1, List.mem_cons, List.not_mem_nil, or_false] at hc
  rcases hc with rfl | rfl
  · exact w_c0
  · exact w_c1
set_option maxRecDepth 65536 in
theorem w_t1 : words1.all (fun c => isCode c || c.before args0 about1) = true := by decide +kernel
theorem w_tables : (allAtoms (Jvm.Cond.code x code maxLocals ret :: tables_1)).before args0 about1 = true := by
  rw [allAtoms_all]
  show words1.all (fun c => c.before args0 about1) = true
  refine all_split ?_ w_codes
  rw [w_t1]
set_option maxRecDepth 65536 in
theorem w_case : (Jvm.Cond.and given_1 narrow_1).before args0 about1 = true := by decide +kernel
theorem w_applies : (headSpec (Jvm.Cond.code x code maxLocals ret :: tables_1) room_1).applies x e0.platform about1 = true :=
  (Spec.applies_iff w_frames).mpr ⟨w_running, w_runnable, w_alone, w_named, w_hears, w_ripe, w_room, w_tables⟩
theorem atStart : AtStart classFile x code maxLocals ret World_1 tables_1 room_1 Calls_1 rest_1 Pre_1 launch0 p0 e0 about1 theMethod args0 below0 :=
  ⟨lists_1, trivial, launch0.admits_env _ _ _, launch0.least_env, fairChoices_fair.cas, fairChoices_fair.clock, w_frames, w_args, w_heap, w_applies, trivial, trivial, w_case⟩
end start1
theorem witness_1 : WitnessClaimed_1 := ⟨start1.p0, start1.e0, start1.about1, start1.theMethod, start1.args0, start1.below0, start1.atStart⟩
end Jvm.Pilot.@@N@@
