import JvmDerived
import JvmDerived.Pilot.@@N@@Statement
import JvmDerived.Pilot.@@N@@Code
set_option linter.unusedVariables false
set_option linter.unusedSimpArgs false
namespace Jvm.RoadKit
open Sem ClassFile Op Lib Jvm.Stand Jvm.Free Jvm.LawKit
section New
variable {p : Program} {l : Launch} {e : Env} {R : Room} {s : State} {m : MethodId} {args : Array Value} {below : List Frame} {meth : Method} {c : Code} {T : State} {locs : List Loc} {cells slots : Nat}
theorem retI (X : Stand p l e R s m args below meth c T locs cells slots) (hx : p.tables.exec = Jvm.exec) {pc : Nat} {Ls : Array Slot} {z : Int32} {rest : List Value} (hret : meth.sig.returnType = some .int) (hd : decode c.code pc = .ok (.ireturn, 1)) {fs : List Frame}
    (hl : ∀ (f : JFrame) (acts : List Action), f.method = m → f.locked = none → f.entered = [] → (doReturn e (T.setTop f) acts (some (.int z))).1 = T.setFrames fs) : Steps p.tables e below (T.setTop (mkF m pc Ls (.int z :: rest))) (T.setFrames fs) := by
  have hm' : T.vm.method? m = some meth := X.method'
  have hn : narrow .int (.int z) = .int z := rfl
  show Steps p.tables e below (T.setTop { method := m, pc := pc, locals := Ls, stack := _ :: rest, locked := none }) _
  jvm_step X.here [X.here.top, hx, hd, hm', hret, hn]
  first | (intro acts; rw [hl _ acts rfl rfl rfl]) | rw [hl _ _ rfl rfl rfl]
  exact Steps.refl _
end New
end Jvm.RoadKit
namespace Jvm.Pilot.@@N@@
open Jvm Jvm.ClassFile Sem Op Lib Jvm.Free Jvm.Stand Jvm.LawKit Jvm.RoadKit Bundle Jvm.Pilot.@@N@@.Jvm.D
/-- from S the run ends, in a state and with an outcome of which P holds -/
def OGo (p : Program) (e : Env) (below : List Frame) (P : State → Outcome → Prop) (S : State) : Prop :=
  ∃ s₂ o, Steps p.tables e below S s₂ ∧ s₂.status = .running ∧ Ended s₂ below o ∧ P s₂ o
theorem OGo.by {p : Program} {e : Env} {below : List Frame} {P : State → Outcome → Prop} {S S' : State} (h : ∀ t, Steps p.tables e below S' t → Steps p.tables e below S t) (g : OGo p e below P S') : OGo p e below P S := by
  obtain ⟨s₂, o, h1, h2⟩ := g; exact ⟨s₂, o, h _ h1, h2⟩
theorem OGo.of {p : Program} {e : Env} {below : List Frame} {P : State → Outcome → Prop} {S S' : State} (h : Steps p.tables e below S S') (g : OGo p e below P S') : OGo p e below P S := by
  obtain ⟨s₂, o, h1, h2⟩ := g; exact ⟨s₂, o, h.trans h1, h2⟩
theorem OGo.ret {p : Program} {e : Env} {below : List Frame} {P : State → Outcome → Prop} {S S' : State} {o : Outcome} (h : Steps p.tables e below S S') (h1 : S'.status = .running) (h2 : Ended S' below o) (h3 : P S' o) : OGo p e below P S := ⟨S', o, h, h1, h2, h3⟩
theorem own_nsRoot {Z : State} {a0 : Array Value} {O K : String} {n : Nat} (w : (Jvm.Cond.noSuperclass O).before a0 Z = true) (wk : (Jvm.Cond.instantiable K n).before a0 Z = true) (hn : O ≠ K) : NS Z O K := by
  obtain ⟨c, k, h1, h2, h3, -, -⟩ := Cond.noSuperclass_spec w
  obtain ⟨t, k', g1, -⟩ := Cond.instantiable_spec wk
  have ne := ids_ne h1 g1 hn
  refine ⟨c, t, h1, g1, fun fuel => ?_⟩
  cases fuel with
  | zero => rfl
  | succ f => simp [Vm.isSubclassAux, ne, h2, h3]
theorem own_nsNo {Z : State} {a0 : Array Value} {C S K : String} {n : Nat} (w : (Jvm.Cond.superclass C S).before a0 Z = true) (wk : (Jvm.Cond.instantiable K n).before a0 Z = true) (m : NS Z C K) (hn : C ≠ K) : ∃ c t, Z.vm.findClass C = some c ∧ Z.vm.findClass K = some t ∧ Z.vm.assignable c t = false := by
  obtain ⟨c, t, h0, g0, n3⟩ := m
  obtain ⟨p, k, kp, h1, h2, h3, h4, h5, -, h7⟩ := Cond.superclass_spec h0 w
  obtain ⟨t', k', g1, g2, g5, g7, -⟩ := Cond.instantiable_spec wk
  cases g0.symm.trans g1
  have g8 : k'.isInterface = false := (Bool.or_eq_false_iff.mp g7).1
  have ne := ids_ne h0 g0 hn
  refine ⟨c, t, h0, g0, ?_⟩
  show Z.vm.assignableAux (255 + 1) c t = false
  simp [Vm.assignableAux, ne, h2, g2, h5, g5, g8, Vm.isSubclass, n3]
theorem own_mev {Z s : State} {args : Array Value} {C : String} {mr : Addr} (hZ : Z.Warmed39 s.vm) (M : Mir Z C mr) : (Term.mirror C).eval args s none [] s = some (.ref mr) := by
  obtain ⟨c, k, h1, h2, h3, -⟩ := M
  obtain ⟨k', q, ek⟩ := hZ.alike.2.2 _ _ h2
  have f : s.vm.findClass C = some c := by rw [hZ.alike.findClass]; exact h1
  have m : k'.mirror = some mr := by rw [ek]; exact h3
  simp [Term.eval, f, q, m]
theorem own_mvMN {Z s : State} {a0 args : Array Value} {own host : String} {index : Nat} {y : MethodName} (hZ : Z.Warmed39 s.vm) (w : (Jvm.Cond.methodLinkNest own index y host).before a0 Z = true) : (Jvm.Cond.methodLinkNest own index y host).before args s = true := (Cond.methodLinkNest_wide hZ w :)
theorem own_sta_keep0 {Z : State} {h h' : Heap} {C n d : String} {v : Value} (F : Sta Z h C n d v) (K : Keep h h' []) : Sta Z h' C n d v := by
  obtain ⟨cf, i, k, f, st, cell, h1, h2, h3, h4, h5, h6, h7⟩ := F
  exact ⟨cf, i, k, f, st, cell, h1, h2, h3, h4, K.2.1 _ _ h5 nin0, h6, h7⟩
theorem own_eqI {args : Array Value} {first s : State} {o : Option Outcome} {idx : List Nat} {t : Term} {n : Int32} (h : (Jvm.Cond.eq t (.int n)).value args first o s idx = some true) : t.eval args first o idx s = some (.int n) := by
  obtain ⟨x, y, h1, h2, -, k⟩ := cmp_v (Or.inl h)
  obtain rfl : y = .int n := (Option.some.inj (h2.symm.trans (Term.int_eval n)))
  obtain ⟨z, rfl⟩ := k
  have q := gotT (Cond.eq_ints h1 h2) h
  rw [h1, q]
theorem own_arr0 {s : State} {args : Array Value} {t : Term} {a : Addr} {ty : FieldType} (hf : Fit s) (ev : t.eval args s none [] s = some (.ref a)) (h1 : (Jvm.Cond.arrayOf t ty).value args s none s [] = some true) (h2 : (Jvm.Cond.eq (.length t) (.int 0)).value args s none s [] = some true) : ∃ k, Arv s s.heap a k ty (0 : Int32) [] .null := by
  obtain ⟨c, A⟩ := Arr.start ev h1
  have hl := own_eqI h2
  have ha := A.fin (Vm.Alike.refl _)
  have h31 := Jvm.Free.SBG.length_lt ev ha hl
  have e := Option.some.inj ((len_f ev ha h31).symm.trans hl)
  exact ⟨c.cls, Arv.start hf A h31 (Value.int.inj e) (by decide) rfl trivial⟩
theorem d3_0 : decode jdk_22_method_1_code 0 = .ok (.aload_n 0, 1) := by decide +kernel
theorem d3_1 : decode jdk_22_method_1_code 1 = .ok (.invokespecial 1, 3) := by decide +kernel
theorem d3_4 : decode jdk_22_method_1_code 4 = .ok (.return_, 1) := by decide +kernel
theorem own_pn3 : plainName "java/util/AbstractCollection" = true := by first | (simp [plainName, overriddenIn]; done) | decide +kernel
theorem ef_rm3 (m : MethodId) (a0 : Addr) : entryFrame m #[(.ref a0)] 1 = mkF m 0 #[.val (.ref a0)] [] := by first | (simp [entryFrame, mkF, argsToLocals, Value.category]; done) | rfl
def Q_rm3 (Z : State) (a0 : Addr) (h0 : Heap) (n0 : Nat) (v : Option Value) (h : Heap) (L : List Loc) : Prop := v = none ∧ Fr n0 L ∧ h = h0
set_option maxRecDepth 65536 in
set_option maxHeartbeats 40000000 in
theorem rm3 (l : Launch) (Z : State) (av0 : Array Value) (hw : ∀ d ∈ tables_1, d.before av0 Z = true) (ws : List Jvm.Cond) (a0 : Addr) (h0 : Heap) (n0 : Nat) (Z0 : n0 ≤ h0.size) :
    MetFree l (⟨"java/util/AbstractCollection", "<init>", "()V"⟩ : MethodName) (head1 (Jvm.Cond.code (⟨"java/util/AbstractCollection", "<init>", "()V"⟩ : MethodName) jdk_22_method_1_code 1 none :: ws) ({ frames := 1, cells := 0, slots := 0, locals := 12 } : Room)) (fun a U => a = #[(.ref a0)] ∧ Z.Warmed39 U.vm ∧ U.heap = h0) (fun _ _ _ _ _ => True) (fun _ U o U' => ∃ v L, o = .returned v ∧ Q_rm3 Z a0 h0 n0 v U'.heap L ∧ FrameEnd U o U' L ({ frames := 1, cells := 0, slots := 0, locals := 12 } : Room).cells ({ frames := 1, cells := 0, slots := 0, locals := 12 } : Room).slots) := by
  refine MetFree.of_bodySF (plainFor_of_name own_pn3) hisR ?_
  intro p e s m args below meth c s₁ Bd hml0 hP hK
  obtain ⟨rfl, hZ, hh⟩ := hP
  have hx := Bd.exec
  have hby := Bd.bytes
  have hml : c.maxLocals = 1 := hml0
  have hown : s.vm.findClass "java/util/AbstractCollection" = some m.cls := findClass_of_methodNamed Bd.named
  have hnm := (name_of_methodNamed Bd.named Bd.method).1
  have X0 : Stand p l e ({ frames := 1, cells := 0, slots := 0, locals := 12 } : Room) s m #[(.ref a0)] below meth c s₁ [] 0 0 := Stand.of_body Bd
  have e0 : s₁.heap = h0 := by rw [← hh, Bd.state]; rfl
  have N0 := Fr.nil n0
  refine OGo.by (P := fun U' o => ∃ v L, o = .returned v ∧ Q_rm3 Z a0 h0 n0 v U'.heap L ∧ FrameEnd s o U' L ({ frames := 1, cells := 0, slots := 0, locals := 12 } : Room).cells ({ frames := 1, cells := 0, slots := 0, locals := 12 } : Room).slots) (fun T_ k_ => castTop (ef_rm3 m a0) k_) ?_
  show OGo p e below _ (s₁.setTop (mkF m 0 #[.val (.ref a0)] []))
  refine OGo.by (fun _ k => XS.aloadN X0.here hx rfl (hb hby d3_0) rfl rfl k) ?_
  show OGo p e below _ (s₁.setTop (mkF m 1 #[.val (.ref a0)] [(.ref a0)]))
  obtain ⟨T1, X1, e1, st1⟩ := initO X0 hx hZ hown (hw _ (List.mem_of_getElem? (i := 18) rfl)) (hw _ (List.mem_of_getElem? (i := 19) rfl)) (hw _ (List.mem_of_getElem? (i := 20) rfl)) e0 (g := (mkF m 1 #[.val (.ref a0)] [(.ref a0)])) rfl (by rw [hml]; rfl) rfl (hb hby d3_1) (by decide) (W := 0) (by show 2 * 0 + _ ≤ _; exact Nat.le_of_eq rfl) (by decide)
  refine OGo.by st1 ?_
  show OGo p e below _ (T1.setTop (mkF m 4 #[.val (.ref a0)] []))
  obtain ⟨fs, hr, hrun, hended, hW, hsame⟩ := X1.leave (v := none) (fun _ => rfl)
  refine OGo.ret (X1.returnOut hx Bd.returns (hb hby d3_4) hr) hrun hended ⟨_, _, rfl, ?_, ⟨_, rfl⟩, hW, hsame.mono (by decide) (by decide)⟩
  show Q_rm3 Z a0 h0 n0 _ T1.heap _
  rw [e1]
  exact ⟨rfl, N0, rfl⟩
theorem d6_0 : decode jdk_30_method_1_code 0 = .ok (.aload_n 0, 1) := by decide +kernel
theorem d6_1 : decode jdk_30_method_1_code 1 = .ok (.invokespecial 1, 3) := by decide +kernel
theorem d6_4 : decode jdk_30_method_1_code 4 = .ok (.return_, 1) := by decide +kernel
theorem own_pn6 : plainName "java/lang/Record" = true := by first | (simp [plainName, overriddenIn]; done) | decide +kernel
theorem ef_rm6 (m : MethodId) (a0 : Addr) : entryFrame m #[(.ref a0)] 1 = mkF m 0 #[.val (.ref a0)] [] := by first | (simp [entryFrame, mkF, argsToLocals, Value.category]; done) | rfl
def Q_rm6 (Z : State) (a0 : Addr) (h0 : Heap) (n0 : Nat) (v : Option Value) (h : Heap) (L : List Loc) : Prop := v = none ∧ Fr n0 L ∧ h = h0
set_option maxRecDepth 65536 in
set_option maxHeartbeats 40000000 in
theorem rm6 (l : Launch) (Z : State) (av0 : Array Value) (hw : ∀ d ∈ tables_1, d.before av0 Z = true) (ws : List Jvm.Cond) (a0 : Addr) (h0 : Heap) (n0 : Nat) (Z0 : n0 ≤ h0.size) :
    MetFree l (⟨"java/lang/Record", "<init>", "()V"⟩ : MethodName) (head1 (Jvm.Cond.code (⟨"java/lang/Record", "<init>", "()V"⟩ : MethodName) jdk_30_method_1_code 1 none :: ws) ({ frames := 1, cells := 0, slots := 0, locals := 12 } : Room)) (fun a U => a = #[(.ref a0)] ∧ Z.Warmed39 U.vm ∧ U.heap = h0) (fun _ _ _ _ _ => True) (fun _ U o U' => ∃ v L, o = .returned v ∧ Q_rm6 Z a0 h0 n0 v U'.heap L ∧ FrameEnd U o U' L ({ frames := 1, cells := 0, slots := 0, locals := 12 } : Room).cells ({ frames := 1, cells := 0, slots := 0, locals := 12 } : Room).slots) := by
  refine MetFree.of_bodySF (plainFor_of_name own_pn6) hisR ?_
  intro p e s m args below meth c s₁ Bd hml0 hP hK
  obtain ⟨rfl, hZ, hh⟩ := hP
  have hx := Bd.exec
  have hby := Bd.bytes
  have hml : c.maxLocals = 1 := hml0
  have hown : s.vm.findClass "java/lang/Record" = some m.cls := findClass_of_methodNamed Bd.named
  have hnm := (name_of_methodNamed Bd.named Bd.method).1
  have X0 : Stand p l e ({ frames := 1, cells := 0, slots := 0, locals := 12 } : Room) s m #[(.ref a0)] below meth c s₁ [] 0 0 := Stand.of_body Bd
  have e0 : s₁.heap = h0 := by rw [← hh, Bd.state]; rfl
  have N0 := Fr.nil n0
  refine OGo.by (P := fun U' o => ∃ v L, o = .returned v ∧ Q_rm6 Z a0 h0 n0 v U'.heap L ∧ FrameEnd s o U' L ({ frames := 1, cells := 0, slots := 0, locals := 12 } : Room).cells ({ frames := 1, cells := 0, slots := 0, locals := 12 } : Room).slots) (fun T_ k_ => castTop (ef_rm6 m a0) k_) ?_
  show OGo p e below _ (s₁.setTop (mkF m 0 #[.val (.ref a0)] []))
  refine OGo.by (fun _ k => XS.aloadN X0.here hx rfl (hb hby d6_0) rfl rfl k) ?_
  show OGo p e below _ (s₁.setTop (mkF m 1 #[.val (.ref a0)] [(.ref a0)]))
  obtain ⟨T1, X1, e1, st1⟩ := initO X0 hx hZ hown (hw _ (List.mem_of_getElem? (i := 37) rfl)) (hw _ (List.mem_of_getElem? (i := 19) rfl)) (hw _ (List.mem_of_getElem? (i := 20) rfl)) e0 (g := (mkF m 1 #[.val (.ref a0)] [(.ref a0)])) rfl (by rw [hml]; rfl) rfl (hb hby d6_1) (by decide) (W := 0) (by show 2 * 0 + _ ≤ _; exact Nat.le_of_eq rfl) (by decide)
  refine OGo.by st1 ?_
  show OGo p e below _ (T1.setTop (mkF m 4 #[.val (.ref a0)] []))
  obtain ⟨fs, hr, hrun, hended, hW, hsame⟩ := X1.leave (v := none) (fun _ => rfl)
  refine OGo.ret (X1.returnOut hx Bd.returns (hb hby d6_4) hr) hrun hended ⟨_, _, rfl, ?_, ⟨_, rfl⟩, hW, hsame.mono (by decide) (by decide)⟩
  show Q_rm6 Z a0 h0 n0 _ T1.heap _
  rw [e1]
  exact ⟨rfl, N0, rfl⟩
theorem d31_0 : decode jdk_47_method_1_code 0 = .ok (.aload_n 0, 1) := by decide +kernel
theorem d31_1 : decode jdk_47_method_1_code 1 = .ok (.invokespecial 1, 3) := by decide +kernel
theorem own_pd0 : parseMethodDescriptor "()V" = some ⟨[], none⟩ := by decide +kernel
theorem d31_4 : decode jdk_47_method_1_code 4 = .ok (.return_, 1) := by decide +kernel
theorem own_pn31 : plainName "java/util/ImmutableCollections$AbstractImmutableCollection" = true := by first | (simp [plainName, overriddenIn]; done) | decide +kernel
theorem ef_rm31 (m : MethodId) (a0 : Addr) : entryFrame m #[(.ref a0)] 1 = mkF m 0 #[.val (.ref a0)] [] := by first | (simp [entryFrame, mkF, argsToLocals, Value.category]; done) | rfl
def Q_rm31 (Z : State) (a0 : Addr) (h0 : Heap) (n0 : Nat) (v : Option Value) (h : Heap) (L : List Loc) : Prop := v = none ∧ Fr n0 L ∧ h = h0
set_option maxRecDepth 65536 in
set_option maxHeartbeats 40000000 in
theorem rm31 (l : Launch) (Z : State) (av0 : Array Value) (hw : ∀ d ∈ tables_1, d.before av0 Z = true) (ws : List Jvm.Cond) (a0 : Addr) (h0 : Heap) (n0 : Nat) (Z0 : n0 ≤ h0.size) :
    MetFree l (⟨"java/util/ImmutableCollections$AbstractImmutableCollection", "<init>", "()V"⟩ : MethodName) (head1 (Jvm.Cond.code (⟨"java/util/ImmutableCollections$AbstractImmutableCollection", "<init>", "()V"⟩ : MethodName) jdk_47_method_1_code 1 none :: ws) ({ frames := 2, cells := 0, slots := 0, locals := 24 } : Room)) (fun a U => a = #[(.ref a0)] ∧ Z.Warmed39 U.vm ∧ U.heap = h0) (fun _ _ _ _ _ => True) (fun _ U o U' => ∃ v L, o = .returned v ∧ Q_rm31 Z a0 h0 n0 v U'.heap L ∧ FrameEnd U o U' L ({ frames := 2, cells := 0, slots := 0, locals := 24 } : Room).cells ({ frames := 2, cells := 0, slots := 0, locals := 24 } : Room).slots) := by
  refine MetFree.of_bodySF (plainFor_of_name own_pn31) hisR ?_
  intro p e s m args below meth c s₁ Bd hml0 hP hK
  obtain ⟨rfl, hZ, hh⟩ := hP
  have hx := Bd.exec
  have hby := Bd.bytes
  have hml : c.maxLocals = 1 := hml0
  have hown : s.vm.findClass "java/util/ImmutableCollections$AbstractImmutableCollection" = some m.cls := findClass_of_methodNamed Bd.named
  have hnm := (name_of_methodNamed Bd.named Bd.method).1
  have X0 : Stand p l e ({ frames := 2, cells := 0, slots := 0, locals := 24 } : Room) s m #[(.ref a0)] below meth c s₁ [] 0 0 := Stand.of_body Bd
  have e0 : s₁.heap = h0 := by rw [← hh, Bd.state]; rfl
  have N0 := Fr.nil n0
  refine OGo.by (P := fun U' o => ∃ v L, o = .returned v ∧ Q_rm31 Z a0 h0 n0 v U'.heap L ∧ FrameEnd s o U' L ({ frames := 2, cells := 0, slots := 0, locals := 24 } : Room).cells ({ frames := 2, cells := 0, slots := 0, locals := 24 } : Room).slots) (fun T_ k_ => castTop (ef_rm31 m a0) k_) ?_
  show OGo p e below _ (s₁.setTop (mkF m 0 #[.val (.ref a0)] []))
  refine OGo.by (fun _ k => XS.aloadN X0.here hx rfl (hb hby d31_0) rfl rfl k) ?_
  show OGo p e below _ (s₁.setTop (mkF m 1 #[.val (.ref a0)] [(.ref a0)]))
  obtain ⟨_, _, ⟨T1, L1, k1, n1⟩, -, X1, ⟨Lc1, hQ1, l1, y1, z1⟩, st1⟩ := X0.specialBack hx (y := (⟨"java/util/AbstractCollection", "<init>", "()V"⟩ : MethodName)) rfl hown (mvT hZ (hw _ (List.mem_of_getElem? (i := 230) rfl))) (mvT hZ (hw _ (List.mem_of_getElem? (i := 13) rfl))) (mvT hZ (hw _ (List.mem_of_getElem? (i := 17) rfl))) (by decide) (backOf (W := 0) (rm3 l Z av0 hw [] a0 h0 n0 Z0) hZ (hw _ (List.mem_of_getElem? (i := 17) rfl)) (hw _ (List.mem_of_getElem? (i := 16) rfl)) (by decide) (by decide)) (g := (mkF m 1 #[.val (.ref a0)] [(.ref a0)])) rfl (by rw [hml]; rfl) (Steps.refl _) (a := a0) (argsL := []) (rest := []) (lenOf own_pd0 rfl) rfl (by show 2 * 0 + _ ≤ _; exact Nat.le_of_eq rfl) (hb hby d31_1) (fun _ _ => ⟨rfl, e0, (by decide : 0 + 0 ≤ _), (by decide : 0 + 0 ≤ _)⟩)
  dsimp only [Pt.U, Pt.locs, Pt.cells, Pt.slots] at X1 l1 y1 z1 st1 hQ1
  subst l1 y1 z1
  obtain ⟨rfl, N1q, e1⟩ := hQ1
  have N1 := Fr.app N0 N1q
  refine OGo.of st1 ?_
  show OGo p e below _ (T1.setTop (mkF m 4 #[.val (.ref a0)] []))
  obtain ⟨fs, hr, hrun, hended, hW, hsame⟩ := X1.leave (v := none) (fun _ => rfl)
  refine OGo.ret (X1.returnOut hx Bd.returns (hb hby d31_4) hr) hrun hended ⟨_, _, rfl, ?_, ⟨_, rfl⟩, hW, hsame.mono (by decide) (by decide)⟩
  show Q_rm31 Z a0 h0 n0 _ T1.heap _
  rw [e1]
  exact ⟨rfl, N1, rfl⟩
theorem d30_0 : decode jdk_46_method_1_code 0 = .ok (.aload_n 0, 1) := by decide +kernel
theorem d30_1 : decode jdk_46_method_1_code 1 = .ok (.invokespecial 1, 3) := by decide +kernel
theorem d30_4 : decode jdk_46_method_1_code 4 = .ok (.return_, 1) := by decide +kernel
theorem own_pn30 : plainName "java/util/ImmutableCollections$AbstractImmutableList" = true := by first | (simp [plainName, overriddenIn]; done) | decide +kernel
theorem ef_rm30 (m : MethodId) (a0 : Addr) : entryFrame m #[(.ref a0)] 1 = mkF m 0 #[.val (.ref a0)] [] := by first | (simp [entryFrame, mkF, argsToLocals, Value.category]; done) | rfl
def Q_rm30 (Z : State) (a0 : Addr) (h0 : Heap) (n0 : Nat) (v : Option Value) (h : Heap) (L : List Loc) : Prop := v = none ∧ Fr n0 L ∧ h = h0
set_option maxRecDepth 65536 in
set_option maxHeartbeats 40000000 in
theorem rm30 (l : Launch) (Z : State) (av0 : Array Value) (hw : ∀ d ∈ tables_1, d.before av0 Z = true) (ws : List Jvm.Cond) (a0 : Addr) (h0 : Heap) (n0 : Nat) (Z0 : n0 ≤ h0.size) :
    MetFree l (⟨"java/util/ImmutableCollections$AbstractImmutableList", "<init>", "()V"⟩ : MethodName) (head1 (Jvm.Cond.code (⟨"java/util/ImmutableCollections$AbstractImmutableList", "<init>", "()V"⟩ : MethodName) jdk_46_method_1_code 1 none :: ws) ({ frames := 3, cells := 0, slots := 0, locals := 36 } : Room)) (fun a U => a = #[(.ref a0)] ∧ Z.Warmed39 U.vm ∧ U.heap = h0) (fun _ _ _ _ _ => True) (fun _ U o U' => ∃ v L, o = .returned v ∧ Q_rm30 Z a0 h0 n0 v U'.heap L ∧ FrameEnd U o U' L ({ frames := 3, cells := 0, slots := 0, locals := 36 } : Room).cells ({ frames := 3, cells := 0, slots := 0, locals := 36 } : Room).slots) := by
  refine MetFree.of_bodySF (plainFor_of_name own_pn30) hisR ?_
  intro p e s m args below meth c s₁ Bd hml0 hP hK
  obtain ⟨rfl, hZ, hh⟩ := hP
  have hx := Bd.exec
  have hby := Bd.bytes
  have hml : c.maxLocals = 1 := hml0
  have hown : s.vm.findClass "java/util/ImmutableCollections$AbstractImmutableList" = some m.cls := findClass_of_methodNamed Bd.named
  have hnm := (name_of_methodNamed Bd.named Bd.method).1
  have X0 : Stand p l e ({ frames := 3, cells := 0, slots := 0, locals := 36 } : Room) s m #[(.ref a0)] below meth c s₁ [] 0 0 := Stand.of_body Bd
  have e0 : s₁.heap = h0 := by rw [← hh, Bd.state]; rfl
  have N0 := Fr.nil n0
  refine OGo.by (P := fun U' o => ∃ v L, o = .returned v ∧ Q_rm30 Z a0 h0 n0 v U'.heap L ∧ FrameEnd s o U' L ({ frames := 3, cells := 0, slots := 0, locals := 36 } : Room).cells ({ frames := 3, cells := 0, slots := 0, locals := 36 } : Room).slots) (fun T_ k_ => castTop (ef_rm30 m a0) k_) ?_
  show OGo p e below _ (s₁.setTop (mkF m 0 #[.val (.ref a0)] []))
  refine OGo.by (fun _ k => XS.aloadN X0.here hx rfl (hb hby d30_0) rfl rfl k) ?_
  show OGo p e below _ (s₁.setTop (mkF m 1 #[.val (.ref a0)] [(.ref a0)]))
  obtain ⟨_, _, ⟨T1, L1, k1, n1⟩, -, X1, ⟨Lc1, hQ1, l1, y1, z1⟩, st1⟩ := X0.specialBack hx (y := (⟨"java/util/ImmutableCollections$AbstractImmutableCollection", "<init>", "()V"⟩ : MethodName)) rfl hown (mvT hZ (hw _ (List.mem_of_getElem? (i := 224) rfl))) (mvT hZ (hw _ (List.mem_of_getElem? (i := 225) rfl))) (mvT hZ (hw _ (List.mem_of_getElem? (i := 229) rfl))) (by decide) (backOf (W := 0) (rm31 l Z av0 hw [] a0 h0 n0 Z0) hZ (hw _ (List.mem_of_getElem? (i := 229) rfl)) (hw _ (List.mem_of_getElem? (i := 228) rfl)) (by decide) (by decide)) (g := (mkF m 1 #[.val (.ref a0)] [(.ref a0)])) rfl (by rw [hml]; rfl) (Steps.refl _) (a := a0) (argsL := []) (rest := []) (lenOf own_pd0 rfl) rfl (by show 2 * 0 + _ ≤ _; exact Nat.le_of_eq rfl) (hb hby d30_1) (fun _ _ => ⟨rfl, e0, (by decide : 0 + 0 ≤ _), (by decide : 0 + 0 ≤ _)⟩)
  dsimp only [Pt.U, Pt.locs, Pt.cells, Pt.slots] at X1 l1 y1 z1 st1 hQ1
  subst l1 y1 z1
  obtain ⟨rfl, N1q, e1⟩ := hQ1
  have N1 := Fr.app N0 N1q
  refine OGo.of st1 ?_
  show OGo p e below _ (T1.setTop (mkF m 4 #[.val (.ref a0)] []))
  obtain ⟨fs, hr, hrun, hended, hW, hsame⟩ := X1.leave (v := none) (fun _ => rfl)
  refine OGo.ret (X1.returnOut hx Bd.returns (hb hby d30_4) hr) hrun hended ⟨_, _, rfl, ?_, ⟨_, rfl⟩, hW, hsame.mono (by decide) (by decide)⟩
  show Q_rm30 Z a0 h0 n0 _ T1.heap _
  rw [e1]
  exact ⟨rfl, N1, rfl⟩
theorem d2_0 : decode jdk_39_method_1_code 0 = .ok (.aload_n 0, 1) := by decide +kernel
theorem d2_1 : decode jdk_39_method_1_code 1 = .ok (.invokespecial 1, 3) := by decide +kernel
theorem d2_4 : decode jdk_39_method_1_code 4 = .ok (.aload_n 0, 1) := by decide +kernel
theorem d2_5 : decode jdk_39_method_1_code 5 = .ok (.iconst 0, 1) := by decide +kernel
theorem d2_6 : decode jdk_39_method_1_code 6 = .ok (.putfield 7, 3) := by decide +kernel
theorem d2_9 : decode jdk_39_method_1_code 9 = .ok (.return_, 1) := by decide +kernel
theorem own_pn2 : plainName "java/util/AbstractList" = true := by first | (simp [plainName, overriddenIn]; done) | decide +kernel
theorem ef_rm2 (m : MethodId) (a0 : Addr) : entryFrame m #[(.ref a0)] 1 = mkF m 0 #[.val (.ref a0)] [] := by first | (simp [entryFrame, mkF, argsToLocals, Value.category]; done) | rfl
def Q_rm2 (Z : State) (a0 : Addr) (h0 : Heap) (n0 : Nat) (v : Option Value) (h : Heap) (L : List Loc) : Prop := v = none ∧ Fr n0 L ∧ Keep h0 h [a0] ∧ (Exa Z h a0 "java/util/ArrayList") ∧ (Fld Z h a0 "java/util/AbstractList" "modCount" "I" (.int (0 : Int32))) ∧ (Fld Z h a0 "java/util/ArrayList" "size" "I" (.int (0 : Int32))) ∧ (Fld Z h a0 "java/util/ArrayList" "elementData" "[Ljava/lang/Object;" .null)
set_option maxRecDepth 65536 in
set_option maxHeartbeats 40000000 in
theorem rm2 (l : Launch) (Z : State) (av0 : Array Value) (hw : ∀ d ∈ tables_1, d.before av0 Z = true) (ws : List Jvm.Cond) (a0 : Addr) (h0 : Heap) (n0 : Nat) (Z0 : n0 ≤ h0.size) (f_0 : Exa Z h0 a0 "java/util/ArrayList") (f_1 : Fld Z h0 a0 "java/util/AbstractList" "modCount" "I" (.int (0 : Int32))) (f_2 : Fld Z h0 a0 "java/util/ArrayList" "size" "I" (.int (0 : Int32))) (f_3 : Fld Z h0 a0 "java/util/ArrayList" "elementData" "[Ljava/lang/Object;" .null) (g_a0 : n0 ≤ a0) :
    MetFree l (⟨"java/util/AbstractList", "<init>", "()V"⟩ : MethodName) (head1 (Jvm.Cond.code (⟨"java/util/AbstractList", "<init>", "()V"⟩ : MethodName) jdk_39_method_1_code 1 none :: ws) ({ frames := 2, cells := 0, slots := 0, locals := 24 } : Room)) (fun a U => a = #[(.ref a0)] ∧ Z.Warmed39 U.vm ∧ U.heap = h0) (fun _ _ _ _ _ => True) (fun _ U o U' => ∃ v L, o = .returned v ∧ Q_rm2 Z a0 h0 n0 v U'.heap L ∧ FrameEnd U o U' L ({ frames := 2, cells := 0, slots := 0, locals := 24 } : Room).cells ({ frames := 2, cells := 0, slots := 0, locals := 24 } : Room).slots) := by
  refine MetFree.of_bodySF (plainFor_of_name own_pn2) hisR ?_
  intro p e s m args below meth c s₁ Bd hml0 hP hK
  obtain ⟨rfl, hZ, hh⟩ := hP
  have hx := Bd.exec
  have hby := Bd.bytes
  have hml : c.maxLocals = 1 := hml0
  have hown : s.vm.findClass "java/util/AbstractList" = some m.cls := findClass_of_methodNamed Bd.named
  have hnm := (name_of_methodNamed Bd.named Bd.method).1
  have X0 : Stand p l e ({ frames := 2, cells := 0, slots := 0, locals := 24 } : Room) s m #[(.ref a0)] below meth c s₁ [] 0 0 := Stand.of_body Bd
  have e0 : s₁.heap = h0 := by rw [← hh, Bd.state]; rfl
  have N0 := Fr.nil n0
  refine OGo.by (P := fun U' o => ∃ v L, o = .returned v ∧ Q_rm2 Z a0 h0 n0 v U'.heap L ∧ FrameEnd s o U' L ({ frames := 2, cells := 0, slots := 0, locals := 24 } : Room).cells ({ frames := 2, cells := 0, slots := 0, locals := 24 } : Room).slots) (fun T_ k_ => castTop (ef_rm2 m a0) k_) ?_
  show OGo p e below _ (s₁.setTop (mkF m 0 #[.val (.ref a0)] []))
  refine OGo.by (fun _ k => XS.aloadN X0.here hx rfl (hb hby d2_0) rfl rfl k) ?_
  show OGo p e below _ (s₁.setTop (mkF m 1 #[.val (.ref a0)] [(.ref a0)]))
  obtain ⟨_, _, ⟨T1, L1, k1, n1⟩, -, X1, ⟨Lc1, hQ1, l1, y1, z1⟩, st1⟩ := X0.specialBack hx (y := (⟨"java/util/AbstractCollection", "<init>", "()V"⟩ : MethodName)) rfl hown (mvT hZ (hw _ (List.mem_of_getElem? (i := 12) rfl))) (mvT hZ (hw _ (List.mem_of_getElem? (i := 13) rfl))) (mvT hZ (hw _ (List.mem_of_getElem? (i := 17) rfl))) (by decide) (backOf (W := 0) (rm3 l Z av0 hw [] a0 h0 n0 Z0) hZ (hw _ (List.mem_of_getElem? (i := 17) rfl)) (hw _ (List.mem_of_getElem? (i := 16) rfl)) (by decide) (by decide)) (g := (mkF m 1 #[.val (.ref a0)] [(.ref a0)])) rfl (by rw [hml]; rfl) (Steps.refl _) (a := a0) (argsL := []) (rest := []) (lenOf own_pd0 rfl) rfl (by show 2 * 0 + _ ≤ _; exact Nat.le_of_eq rfl) (hb hby d2_1) (fun _ _ => ⟨rfl, e0, (by decide : 0 + 0 ≤ _), (by decide : 0 + 0 ≤ _)⟩)
  dsimp only [Pt.U, Pt.locs, Pt.cells, Pt.slots] at X1 l1 y1 z1 st1 hQ1
  subst l1 y1 z1
  obtain ⟨rfl, N1q, e1⟩ := hQ1
  have N1 := Fr.app N0 N1q
  refine OGo.of st1 ?_
  show OGo p e below _ (T1.setTop (mkF m 4 #[.val (.ref a0)] []))
  refine OGo.by (fun _ k => XS.aloadN X1.here hx rfl (hb hby d2_4) rfl rfl k) ?_
  show OGo p e below _ (T1.setTop (mkF m 5 #[.val (.ref a0)] [(.ref a0)]))
  refine OGo.by (fun _ k => XS.iconst X1.here hx rfl (hb hby d2_5) k) ?_
  show OGo p e below _ (T1.setTop (mkF m 6 #[.val (.ref a0)] [(.int (0 : Int32)), (.ref a0)]))
  obtain ⟨T2, h2, X2, e2, W2, st2⟩ := putF X1 hx hZ hown (host := "") (Or.inl (hw _ (List.mem_of_getElem? (i := 21) rfl))) Via.refl e1 f_1 f_0 (Or.inl (hw _ (List.mem_of_getElem? (i := 22) rfl))) (hw _ (List.mem_of_getElem? (i := 1) rfl)) (ty := .int) (by decide) rfl rfl (g := (mkF m 6 #[.val (.ref a0)] [(.int (0 : Int32)), (.ref a0)])) rfl rfl (hb hby d2_6)
  refine OGo.by st2 ?_
  have Fw2 := f_1.same W2
  have N2 := Fr.snoc X2 N1 g_a0
  have K2 : Keep h0 h2 [a0] := ((Keep.refl h0 [a0])).wr W2 (Or.inl (List.mem_of_getElem? (i := 0) rfl))
  show OGo p e below _ (T2.setTop (mkF m 9 #[.val (.ref a0)] []))
  obtain ⟨fs, hr, hrun, hended, hW, hsame⟩ := X2.leave (v := none) (fun _ => rfl)
  refine OGo.ret (X2.returnOut hx Bd.returns (hb hby d2_9) hr) hrun hended ⟨_, _, rfl, ?_, ⟨_, rfl⟩, hW, hsame.mono (by decide) (by decide)⟩
  show Q_rm2 Z a0 h0 n0 _ T2.heap _
  rw [e2]
  have f3 : Exa Z h2 a0 "java/util/ArrayList" := (f_0.wr W2)
  have f4 : Fld Z h2 a0 "java/util/ArrayList" "size" "I" (.int (0 : Int32)) := (f_2.other W2 (Or.inr (slot_ne (Or.inl (hw _ (List.mem_of_getElem? (i := 62) rfl))) (Or.inl (hw _ (List.mem_of_getElem? (i := 22) rfl))) (by decide) (t := .int) (t' := .int) (by decide) (by decide))))
  have f5 : Fld Z h2 a0 "java/util/ArrayList" "elementData" "[Ljava/lang/Object;" .null := (f_3.other W2 (Or.inr (slot_ne (Or.inl (hw _ (List.mem_of_getElem? (i := 25) rfl))) (Or.inl (hw _ (List.mem_of_getElem? (i := 22) rfl))) (by decide) (t := (.array (.object "java/lang/Object"))) (t' := .int) (by decide) (by decide))))
  exact ⟨rfl, N2, K2, f3, Fw2, f4, f5⟩
theorem d1_0 : decode jdk_38_method_2_code 0 = .ok (.aload_n 0, 1) := by decide +kernel
theorem d1_1 : decode jdk_38_method_2_code 1 = .ok (.invokespecial 1, 3) := by decide +kernel
theorem d1_4 : decode jdk_38_method_2_code 4 = .ok (.aload_n 0, 1) := by decide +kernel
theorem d1_5 : decode jdk_38_method_2_code 5 = .ok (.getstatic 39, 3) := by decide +kernel
theorem d1_8 : decode jdk_38_method_2_code 8 = .ok (.putfield 9, 3) := by decide +kernel
theorem d1_11 : decode jdk_38_method_2_code 11 = .ok (.return_, 1) := by decide +kernel
theorem own_pn1 : plainName "java/util/ArrayList" = true := by first | (simp [plainName, overriddenIn]; done) | decide +kernel
theorem ef_rm1 (m : MethodId) (a0 : Addr) : entryFrame m #[(.ref a0)] 1 = mkF m 0 #[.val (.ref a0)] [] := by first | (simp [entryFrame, mkF, argsToLocals, Value.category]; done) | rfl
def Q_rm1 (Z : State) (a0 : Addr) (w : Addr) (h0 : Heap) (n0 : Nat) (v : Option Value) (h : Heap) (L : List Loc) : Prop := v = none ∧ Fr n0 L ∧ Keep h0 h [a0] ∧ (Exa Z h a0 "java/util/ArrayList") ∧ (Fld Z h a0 "java/util/AbstractList" "modCount" "I" (.int (0 : Int32))) ∧ (Fld Z h a0 "java/util/ArrayList" "size" "I" (.int (0 : Int32))) ∧ (Fld Z h a0 "java/util/ArrayList" "elementData" "[Ljava/lang/Object;" (.ref w))
set_option maxRecDepth 65536 in
set_option maxHeartbeats 40000000 in
theorem rm1 (l : Launch) (Z : State) (av0 : Array Value) (hw : ∀ d ∈ tables_1, d.before av0 Z = true) (ws : List Jvm.Cond) (a0 : Addr) (w : Addr) (h0 : Heap) (n0 : Nat) (Z0 : n0 ≤ h0.size) (f_0 : Exa Z h0 a0 "java/util/ArrayList") (f_1 : Fld Z h0 a0 "java/util/AbstractList" "modCount" "I" (.int (0 : Int32))) (f_2 : Fld Z h0 a0 "java/util/ArrayList" "size" "I" (.int (0 : Int32))) (f_3 : Fld Z h0 a0 "java/util/ArrayList" "elementData" "[Ljava/lang/Object;" .null) (g_a0 : n0 ≤ a0) (O_0 : Old Z n0 h0) (S_d : Sta Z Z.heap "java/util/ArrayList" "DEFAULTCAPACITY_EMPTY_ELEMENTDATA" "[Ljava/lang/Object;" (.ref w)) :
    MetFree l (⟨"java/util/ArrayList", "<init>", "()V"⟩ : MethodName) (head1 (Jvm.Cond.code (⟨"java/util/ArrayList", "<init>", "()V"⟩ : MethodName) jdk_38_method_2_code 1 none :: ws) ({ frames := 3, cells := 0, slots := 0, locals := 36 } : Room)) (fun a U => a = #[(.ref a0)] ∧ Z.Warmed39 U.vm ∧ U.heap = h0) (fun _ _ _ _ _ => True) (fun _ U o U' => ∃ v L, o = .returned v ∧ Q_rm1 Z a0 w h0 n0 v U'.heap L ∧ FrameEnd U o U' L ({ frames := 3, cells := 0, slots := 0, locals := 36 } : Room).cells ({ frames := 3, cells := 0, slots := 0, locals := 36 } : Room).slots) := by
  refine MetFree.of_bodySF (plainFor_of_name own_pn1) hisR ?_
  intro p e s m args below meth c s₁ Bd hml0 hP hK
  obtain ⟨rfl, hZ, hh⟩ := hP
  have hx := Bd.exec
  have hby := Bd.bytes
  have hml : c.maxLocals = 1 := hml0
  have hown : s.vm.findClass "java/util/ArrayList" = some m.cls := findClass_of_methodNamed Bd.named
  have hnm := (name_of_methodNamed Bd.named Bd.method).1
  have X0 : Stand p l e ({ frames := 3, cells := 0, slots := 0, locals := 36 } : Room) s m #[(.ref a0)] below meth c s₁ [] 0 0 := Stand.of_body Bd
  have e0 : s₁.heap = h0 := by rw [← hh, Bd.state]; rfl
  have N0 := Fr.nil n0
  refine OGo.by (P := fun U' o => ∃ v L, o = .returned v ∧ Q_rm1 Z a0 w h0 n0 v U'.heap L ∧ FrameEnd s o U' L ({ frames := 3, cells := 0, slots := 0, locals := 36 } : Room).cells ({ frames := 3, cells := 0, slots := 0, locals := 36 } : Room).slots) (fun T_ k_ => castTop (ef_rm1 m a0) k_) ?_
  show OGo p e below _ (s₁.setTop (mkF m 0 #[.val (.ref a0)] []))
  refine OGo.by (fun _ k => XS.aloadN X0.here hx rfl (hb hby d1_0) rfl rfl k) ?_
  show OGo p e below _ (s₁.setTop (mkF m 1 #[.val (.ref a0)] [(.ref a0)]))
  obtain ⟨_, _, ⟨T1, L1, k1, n1⟩, -, X1, ⟨Lc1, hQ1, l1, y1, z1⟩, st1⟩ := X0.specialBack hx (y := (⟨"java/util/AbstractList", "<init>", "()V"⟩ : MethodName)) rfl hown (mvT hZ (hw _ (List.mem_of_getElem? (i := 6) rfl))) (mvT hZ (hw _ (List.mem_of_getElem? (i := 7) rfl))) (mvT hZ (hw _ (List.mem_of_getElem? (i := 11) rfl))) (by decide) (backOf (W := 0) (rm2 l Z av0 hw [] a0 h0 n0 Z0 f_0 f_1 f_2 f_3 g_a0) hZ (hw _ (List.mem_of_getElem? (i := 11) rfl)) (hw _ (List.mem_of_getElem? (i := 10) rfl)) (by decide) (by decide)) (g := (mkF m 1 #[.val (.ref a0)] [(.ref a0)])) rfl (by rw [hml]; rfl) (Steps.refl _) (a := a0) (argsL := []) (rest := []) (lenOf own_pd0 rfl) rfl (by show 2 * 0 + _ ≤ _; exact Nat.le_of_eq rfl) (hb hby d1_1) (fun _ _ => ⟨rfl, e0, (by decide : 0 + 0 ≤ _), (by decide : 0 + 0 ≤ _)⟩)
  dsimp only [Pt.U, Pt.locs, Pt.cells, Pt.slots] at X1 l1 y1 z1 st1 hQ1
  subst l1 y1 z1
  obtain ⟨rfl, N1q, Kc1, G1_0, G1_1, G1_2, G1_3⟩ := hQ1
  have N1 := Fr.app N0 N1q
  have K1 : Keep h0 T1.heap [a0] := ((Keep.refl h0 [a0])).trans Kc1 (allS (P := fun x => x ∈ ([a0] : List Addr) ∨ h0.size ≤ x) (Or.inl (List.mem_of_getElem? (i := 0) rfl)) (all0 (P := fun x => x ∈ ([a0] : List Addr) ∨ h0.size ≤ x)))
  refine OGo.of st1 ?_
  show OGo p e below _ (T1.setTop (mkF m 4 #[.val (.ref a0)] []))
  refine OGo.by (fun _ k => XS.aloadN X1.here hx rfl (hb hby d1_4) rfl rfl k) ?_
  show OGo p e below _ (T1.setTop (mkF m 5 #[.val (.ref a0)] [(.ref a0)]))
  have f2 : Old Z n0 T1.heap := (O_0.keep Kc1 (allS g_a0 all0))
  obtain ⟨T3, X3, e3, st3⟩ := getS2 X1 hx hZ hown (host := "") (Or.inl (hw _ (List.mem_of_getElem? (i := 23) rfl))) Via.refl rfl (S_d.ext f2.2) (g := (mkF m 5 #[.val (.ref a0)] [(.ref a0)])) rfl (hb hby d1_5)
  refine OGo.by st3 ?_
  show OGo p e below _ (T3.setTop (mkF m 8 #[.val (.ref a0)] [(.ref w), (.ref a0)]))
  obtain ⟨T4, h4, X4, e4, W4, st4⟩ := putF X3 hx hZ hown (host := "") (Or.inl (hw _ (List.mem_of_getElem? (i := 24) rfl))) Via.refl e3 G1_3 G1_0 (Or.inl (hw _ (List.mem_of_getElem? (i := 25) rfl))) (hw _ (List.mem_of_getElem? (i := 1) rfl)) (ty := (.array (.object "java/lang/Object"))) (by decide) rfl rfl (g := (mkF m 8 #[.val (.ref a0)] [(.ref w), (.ref a0)])) rfl rfl (hb hby d1_8)
  refine OGo.by st4 ?_
  have Fw4 := G1_3.same W4
  have N4 := Fr.snoc X4 N1 g_a0
  have K4 : Keep h0 h4 [a0] := (K1).wr W4 (Or.inl (List.mem_of_getElem? (i := 0) rfl))
  show OGo p e below _ (T4.setTop (mkF m 11 #[.val (.ref a0)] []))
  obtain ⟨fs, hr, hrun, hended, hW, hsame⟩ := X4.leave (v := none) (fun _ => rfl)
  refine OGo.ret (X4.returnOut hx Bd.returns (hb hby d1_11) hr) hrun hended ⟨_, _, rfl, ?_, ⟨_, rfl⟩, hW, hsame.mono (by decide) (by decide)⟩
  show Q_rm1 Z a0 w h0 n0 _ T4.heap _
  rw [e4]
  have f5 : Exa Z h4 a0 "java/util/ArrayList" := (G1_0.wr W4)
  have f6 : Fld Z h4 a0 "java/util/AbstractList" "modCount" "I" (.int (0 : Int32)) := (G1_1.other W4 (Or.inr (slot_ne (Or.inl (hw _ (List.mem_of_getElem? (i := 22) rfl))) (Or.inl (hw _ (List.mem_of_getElem? (i := 25) rfl))) (by decide) (t := .int) (t' := (.array (.object "java/lang/Object"))) (by decide) (by decide))))
  have f7 : Fld Z h4 a0 "java/util/ArrayList" "size" "I" (.int (0 : Int32)) := (G1_2.other W4 (Or.inr (slot_ne (Or.inl (hw _ (List.mem_of_getElem? (i := 62) rfl))) (Or.inl (hw _ (List.mem_of_getElem? (i := 25) rfl))) (by decide) (t := .int) (t' := (.array (.object "java/lang/Object"))) (by decide) (by decide))))
  exact ⟨rfl, N4, K4, f5, f6, f7, Fw4⟩
theorem d16_0 : decode prog_8_method_1_code 0 = .ok (.aload_n 0, 1) := by decide +kernel
theorem d16_1 : decode prog_8_method_1_code 1 = .ok (.invokespecial 1, 3) := by decide +kernel
theorem d16_4 : decode prog_8_method_1_code 4 = .ok (.aload_n 0, 1) := by decide +kernel
theorem d16_5 : decode prog_8_method_1_code 5 = .ok (.aload_n 1, 1) := by decide +kernel
theorem d16_6 : decode prog_8_method_1_code 6 = .ok (.putfield 7, 3) := by decide +kernel
theorem d16_9 : decode prog_8_method_1_code 9 = .ok (.aload_n 0, 1) := by decide +kernel
theorem d16_10 : decode prog_8_method_1_code 10 = .ok (.lload_n 2, 1) := by decide +kernel
theorem d16_11 : decode prog_8_method_1_code 11 = .ok (.putfield 13, 3) := by decide +kernel
theorem d16_14 : decode prog_8_method_1_code 14 = .ok (.aload_n 0, 1) := by decide +kernel
theorem d16_15 : decode prog_8_method_1_code 15 = .ok (.aload 4, 2) := by decide +kernel
theorem d16_17 : decode prog_8_method_1_code 17 = .ok (.putfield 17, 3) := by decide +kernel
theorem d16_20 : decode prog_8_method_1_code 20 = .ok (.return_, 1) := by decide +kernel
theorem own_pn16 : plainName "com/example/kept_inbox/keptinbox/UnreadConversation" = true := by first | (simp [plainName, overriddenIn]; done) | decide +kernel
theorem ef_rm16 (m : MethodId) (a0 : Addr) (a1 : Addr) (q2 : Int64) (a3 : Addr) : entryFrame m #[(.ref a0), (.ref a1), (.long q2), (.ref a3)] 5 = mkF m 0 #[.val (.ref a0), .val (.ref a1), .val (.long q2), .second, .val (.ref a3)] [] := by first | (simp [entryFrame, mkF, argsToLocals, Value.category]; done) | rfl
def Q_rm16 (Z : State) (a0 : Addr) (a1 : Addr) (q2 : Int64) (a3 : Addr) (h0 : Heap) (n0 : Nat) (v : Option Value) (h : Heap) (L : List Loc) : Prop := v = none ∧ Fr n0 L ∧ Keep h0 h [a0] ∧ (Exa Z h a0 "com/example/kept_inbox/keptinbox/UnreadConversation") ∧ (Fld Z h a0 "com/example/kept_inbox/keptinbox/UnreadConversation" "waiting" "J" (.long q2))
set_option maxRecDepth 65536 in
set_option maxHeartbeats 40000000 in
theorem rm16 (l : Launch) (Z : State) (av0 : Array Value) (hw : ∀ d ∈ tables_1, d.before av0 Z = true) (ws : List Jvm.Cond) (a0 : Addr) (a1 : Addr) (q2 : Int64) (a3 : Addr) (h0 : Heap) (n0 : Nat) (Z0 : n0 ≤ h0.size) (E0 : Exa Z h0 a0 "com/example/kept_inbox/keptinbox/UnreadConversation") (F0 : Fld Z h0 a0 "com/example/kept_inbox/keptinbox/UnreadConversation" "id" "Ljava/lang/String;" .null) (F1 : Fld Z h0 a0 "com/example/kept_inbox/keptinbox/UnreadConversation" "waiting" "J" (.long (0 : Int64))) (F2 : Fld Z h0 a0 "com/example/kept_inbox/keptinbox/UnreadConversation" "newestTitle" "Ljava/lang/String;" .null) (g_a0 : n0 ≤ a0) :
    MetFree l (⟨"com/example/kept_inbox/keptinbox/UnreadConversation", "<init>", "(Ljava/lang/String;JLjava/lang/String;)V"⟩ : MethodName) (head1 (Jvm.Cond.code (⟨"com/example/kept_inbox/keptinbox/UnreadConversation", "<init>", "(Ljava/lang/String;JLjava/lang/String;)V"⟩ : MethodName) prog_8_method_1_code 5 none :: ws) ({ frames := 2, cells := 0, slots := 0, locals := 24 } : Room)) (fun a U => a = #[(.ref a0), (.ref a1), (.long q2), (.ref a3)] ∧ Z.Warmed39 U.vm ∧ U.heap = h0) (fun _ _ _ _ _ => True) (fun _ U o U' => ∃ v L, o = .returned v ∧ Q_rm16 Z a0 a1 q2 a3 h0 n0 v U'.heap L ∧ FrameEnd U o U' L ({ frames := 2, cells := 0, slots := 0, locals := 24 } : Room).cells ({ frames := 2, cells := 0, slots := 0, locals := 24 } : Room).slots) := by
  refine MetFree.of_bodySF (plainFor_of_name own_pn16) hisR ?_
  intro p e s m args below meth c s₁ Bd hml0 hP hK
  obtain ⟨rfl, hZ, hh⟩ := hP
  have hx := Bd.exec
  have hby := Bd.bytes
  have hml : c.maxLocals = 5 := hml0
  have hown : s.vm.findClass "com/example/kept_inbox/keptinbox/UnreadConversation" = some m.cls := findClass_of_methodNamed Bd.named
  have hnm := (name_of_methodNamed Bd.named Bd.method).1
  have X0 : Stand p l e ({ frames := 2, cells := 0, slots := 0, locals := 24 } : Room) s m #[(.ref a0), (.ref a1), (.long q2), (.ref a3)] below meth c s₁ [] 0 0 := Stand.of_body Bd
  have e0 : s₁.heap = h0 := by rw [← hh, Bd.state]; rfl
  have N0 := Fr.nil n0
  refine OGo.by (P := fun U' o => ∃ v L, o = .returned v ∧ Q_rm16 Z a0 a1 q2 a3 h0 n0 v U'.heap L ∧ FrameEnd s o U' L ({ frames := 2, cells := 0, slots := 0, locals := 24 } : Room).cells ({ frames := 2, cells := 0, slots := 0, locals := 24 } : Room).slots) (fun T_ k_ => castTop (ef_rm16 m a0 a1 q2 a3) k_) ?_
  show OGo p e below _ (s₁.setTop (mkF m 0 #[.val (.ref a0), .val (.ref a1), .val (.long q2), .second, .val (.ref a3)] []))
  refine OGo.by (fun _ k => XS.aloadN X0.here hx rfl (hb hby d16_0) rfl rfl k) ?_
  show OGo p e below _ (s₁.setTop (mkF m 1 #[.val (.ref a0), .val (.ref a1), .val (.long q2), .second, .val (.ref a3)] [(.ref a0)]))
  obtain ⟨_, _, ⟨T1, L1, k1, n1⟩, -, X1, ⟨Lc1, hQ1, l1, y1, z1⟩, st1⟩ := X0.specialBack hx (y := (⟨"java/lang/Record", "<init>", "()V"⟩ : MethodName)) rfl hown (mvT hZ (hw _ (List.mem_of_getElem? (i := 133) rfl))) (mvT hZ (hw _ (List.mem_of_getElem? (i := 33) rfl))) (mvT hZ (hw _ (List.mem_of_getElem? (i := 36) rfl))) (by decide) (backOf (W := 0) (rm6 l Z av0 hw [] a0 h0 n0 Z0) hZ (hw _ (List.mem_of_getElem? (i := 36) rfl)) (hw _ (List.mem_of_getElem? (i := 35) rfl)) (by decide) (by decide)) (g := (mkF m 1 #[.val (.ref a0), .val (.ref a1), .val (.long q2), .second, .val (.ref a3)] [(.ref a0)])) rfl (by rw [hml]; rfl) (Steps.refl _) (a := a0) (argsL := []) (rest := []) (lenOf own_pd0 rfl) rfl (by show 2 * 0 + _ ≤ _; exact Nat.le_of_eq rfl) (hb hby d16_1) (fun _ _ => ⟨rfl, e0, (by decide : 0 + 0 ≤ _), (by decide : 0 + 0 ≤ _)⟩)
  dsimp only [Pt.U, Pt.locs, Pt.cells, Pt.slots] at X1 l1 y1 z1 st1 hQ1
  subst l1 y1 z1
  obtain ⟨rfl, N1q, e1⟩ := hQ1
  have N1 := Fr.app N0 N1q
  refine OGo.of st1 ?_
  show OGo p e below _ (T1.setTop (mkF m 4 #[.val (.ref a0), .val (.ref a1), .val (.long q2), .second, .val (.ref a3)] []))
  refine OGo.by (fun _ k => XS.aloadN X1.here hx rfl (hb hby d16_4) rfl rfl k) ?_
  show OGo p e below _ (T1.setTop (mkF m 5 #[.val (.ref a0), .val (.ref a1), .val (.long q2), .second, .val (.ref a3)] [(.ref a0)]))
  refine OGo.by (fun _ k => XS.aloadN X1.here hx rfl (hb hby d16_5) rfl rfl k) ?_
  show OGo p e below _ (T1.setTop (mkF m 6 #[.val (.ref a0), .val (.ref a1), .val (.long q2), .second, .val (.ref a3)] [(.ref a1), (.ref a0)]))
  obtain ⟨T2, h2, X2, e2, W2, st2⟩ := putF X1 hx hZ hown (host := "") (Or.inl (hw _ (List.mem_of_getElem? (i := 134) rfl))) Via.refl e1 F0 E0 (Or.inr ⟨(hw _ (List.mem_of_getElem? (i := 135) rfl)), rfl, hnm⟩) (hw _ (List.mem_of_getElem? (i := 119) rfl)) (ty := (.object "java/lang/String")) (by decide) rfl rfl (g := (mkF m 6 #[.val (.ref a0), .val (.ref a1), .val (.long q2), .second, .val (.ref a3)] [(.ref a1), (.ref a0)])) rfl rfl (hb hby d16_6)
  refine OGo.by st2 ?_
  have Fw2 := F0.same W2
  have N2 := Fr.snoc X2 N1 g_a0
  have K2 : Keep h0 h2 [a0] := ((Keep.refl h0 [a0])).wr W2 (Or.inl (List.mem_of_getElem? (i := 0) rfl))
  show OGo p e below _ (T2.setTop (mkF m 9 #[.val (.ref a0), .val (.ref a1), .val (.long q2), .second, .val (.ref a3)] []))
  refine OGo.by (fun _ k => XS.aloadN X2.here hx rfl (hb hby d16_9) rfl rfl k) ?_
  show OGo p e below _ (T2.setTop (mkF m 10 #[.val (.ref a0), .val (.ref a1), .val (.long q2), .second, .val (.ref a3)] [(.ref a0)]))
  refine OGo.by (fun _ k => XS.lloadN X2.here hx rfl (hb hby d16_10) rfl k) ?_
  show OGo p e below _ (T2.setTop (mkF m 11 #[.val (.ref a0), .val (.ref a1), .val (.long q2), .second, .val (.ref a3)] [(.long q2), (.ref a0)]))
  have f3 : Exa Z h2 a0 "com/example/kept_inbox/keptinbox/UnreadConversation" := (E0.wr W2)
  have f4 : Fld Z h2 a0 "com/example/kept_inbox/keptinbox/UnreadConversation" "waiting" "J" (.long (0 : Int64)) := (F1.other W2 (Or.inr (slot_ne (Or.inr (hw _ (List.mem_of_getElem? (i := 137) rfl))) (Or.inr (hw _ (List.mem_of_getElem? (i := 135) rfl))) (by decide) (t := .long) (t' := (.object "java/lang/String")) (by decide) (by decide))))
  obtain ⟨T5, h5, X5, e5, W5, st5⟩ := putF X2 hx hZ hown (host := "") (Or.inl (hw _ (List.mem_of_getElem? (i := 136) rfl))) Via.refl e2 f4 f3 (Or.inr ⟨(hw _ (List.mem_of_getElem? (i := 137) rfl)), rfl, hnm⟩) (hw _ (List.mem_of_getElem? (i := 119) rfl)) (ty := .long) (by decide) rfl rfl (g := (mkF m 11 #[.val (.ref a0), .val (.ref a1), .val (.long q2), .second, .val (.ref a3)] [(.long q2), (.ref a0)])) rfl rfl (hb hby d16_11)
  refine OGo.by st5 ?_
  have Fw5 := f4.same W5
  have N5 := Fr.snoc X5 N2 g_a0
  have K5 : Keep h0 h5 [a0] := (K2).wr W5 (Or.inl (List.mem_of_getElem? (i := 0) rfl))
  show OGo p e below _ (T5.setTop (mkF m 14 #[.val (.ref a0), .val (.ref a1), .val (.long q2), .second, .val (.ref a3)] []))
  refine OGo.by (fun _ k => XS.aloadN X5.here hx rfl (hb hby d16_14) rfl rfl k) ?_
  show OGo p e below _ (T5.setTop (mkF m 15 #[.val (.ref a0), .val (.ref a1), .val (.long q2), .second, .val (.ref a3)] [(.ref a0)]))
  refine OGo.by (fun _ k => XS.aload X5.here hx rfl (hb hby d16_15) rfl rfl k) ?_
  show OGo p e below _ (T5.setTop (mkF m 17 #[.val (.ref a0), .val (.ref a1), .val (.long q2), .second, .val (.ref a3)] [(.ref a3), (.ref a0)]))
  have f6 : Exa Z h5 a0 "com/example/kept_inbox/keptinbox/UnreadConversation" := (f3.wr W5)
  have f7 : Fld Z h5 a0 "com/example/kept_inbox/keptinbox/UnreadConversation" "newestTitle" "Ljava/lang/String;" .null := ((F2.other W2 (Or.inr (slot_ne (Or.inr (hw _ (List.mem_of_getElem? (i := 139) rfl))) (Or.inr (hw _ (List.mem_of_getElem? (i := 135) rfl))) (by decide) (t := (.object "java/lang/String")) (t' := (.object "java/lang/String")) (by decide) (by decide)))).other W5 (Or.inr (slot_ne (Or.inr (hw _ (List.mem_of_getElem? (i := 139) rfl))) (Or.inr (hw _ (List.mem_of_getElem? (i := 137) rfl))) (by decide) (t := (.object "java/lang/String")) (t' := .long) (by decide) (by decide))))
  obtain ⟨T8, h8, X8, e8, W8, st8⟩ := putF X5 hx hZ hown (host := "") (Or.inl (hw _ (List.mem_of_getElem? (i := 138) rfl))) Via.refl e5 f7 f6 (Or.inr ⟨(hw _ (List.mem_of_getElem? (i := 139) rfl)), rfl, hnm⟩) (hw _ (List.mem_of_getElem? (i := 119) rfl)) (ty := (.object "java/lang/String")) (by decide) rfl rfl (g := (mkF m 17 #[.val (.ref a0), .val (.ref a1), .val (.long q2), .second, .val (.ref a3)] [(.ref a3), (.ref a0)])) rfl rfl (hb hby d16_17)
  refine OGo.by st8 ?_
  have Fw8 := f7.same W8
  have N8 := Fr.snoc X8 N5 g_a0
  have K8 : Keep h0 h8 [a0] := (K5).wr W8 (Or.inl (List.mem_of_getElem? (i := 0) rfl))
  show OGo p e below _ (T8.setTop (mkF m 20 #[.val (.ref a0), .val (.ref a1), .val (.long q2), .second, .val (.ref a3)] []))
  obtain ⟨fs, hr, hrun, hended, hW, hsame⟩ := X8.leave (v := none) (fun _ => rfl)
  refine OGo.ret (X8.returnOut hx Bd.returns (hb hby d16_20) hr) hrun hended ⟨_, _, rfl, ?_, ⟨_, rfl⟩, hW, hsame.mono (by decide) (by decide)⟩
  show Q_rm16 Z a0 a1 q2 a3 h0 n0 _ T8.heap _
  rw [e8]
  have f9 : Exa Z h8 a0 "com/example/kept_inbox/keptinbox/UnreadConversation" := (f6.wr W8)
  have f10 : Fld Z h8 a0 "com/example/kept_inbox/keptinbox/UnreadConversation" "waiting" "J" (.long q2) := (Fw5.other W8 (Or.inr (slot_ne (Or.inr (hw _ (List.mem_of_getElem? (i := 137) rfl))) (Or.inr (hw _ (List.mem_of_getElem? (i := 139) rfl))) (by decide) (t := .long) (t' := (.object "java/lang/String")) (by decide) (by decide))))
  exact ⟨rfl, N8, K8, f9, f10⟩
theorem d34_0 : decode prog_8_method_6_code 0 = .ok (.aload_n 0, 1) := by decide +kernel
theorem d34_1 : decode prog_8_method_6_code 1 = .ok (.getfield 13, 3) := by decide +kernel
theorem d34_4 : decode prog_8_method_6_code 4 = .ok (.lreturn, 1) := by decide +kernel
theorem own_pn34 : plainName "com/example/kept_inbox/keptinbox/UnreadConversation" = true := by first | (simp [plainName, overriddenIn]; done) | decide +kernel
theorem ef_rm34 (m : MethodId) (a0 : Addr) : entryFrame m #[(.ref a0)] 1 = mkF m 0 #[.val (.ref a0)] [] := by first | (simp [entryFrame, mkF, argsToLocals, Value.category]; done) | rfl
def Q_rm34 (Z : State) (a0 : Addr) (q : Int64) (h0 : Heap) (n0 : Nat) (v : Option Value) (h : Heap) (L : List Loc) : Prop := v = some (.long q) ∧ Fr n0 L ∧ h = h0
set_option maxRecDepth 65536 in
set_option maxHeartbeats 40000000 in
theorem rm34 (l : Launch) (Z : State) (av0 : Array Value) (hw : ∀ d ∈ tables_1, d.before av0 Z = true) (ws : List Jvm.Cond) (a0 : Addr) (q : Int64) (h0 : Heap) (n0 : Nat) (Z0 : n0 ≤ h0.size) (F1 : Fld Z h0 a0 "com/example/kept_inbox/keptinbox/UnreadConversation" "waiting" "J" (.long q)) :
    MetFree l (⟨"com/example/kept_inbox/keptinbox/UnreadConversation", "waiting", "()J"⟩ : MethodName) (head1 (Jvm.Cond.code (⟨"com/example/kept_inbox/keptinbox/UnreadConversation", "waiting", "()J"⟩ : MethodName) prog_8_method_6_code 1 (some .long) :: ws) ({ frames := 0, cells := 0, slots := 0, locals := 0 } : Room)) (fun a U => a = #[(.ref a0)] ∧ Z.Warmed39 U.vm ∧ U.heap = h0) (fun _ _ _ _ _ => True) (fun _ U o U' => ∃ v L, o = .returned v ∧ Q_rm34 Z a0 q h0 n0 v U'.heap L ∧ FrameEnd U o U' L ({ frames := 0, cells := 0, slots := 0, locals := 0 } : Room).cells ({ frames := 0, cells := 0, slots := 0, locals := 0 } : Room).slots) := by
  refine MetFree.of_bodySF (plainFor_of_name own_pn34) hisR ?_
  intro p e s m args below meth c s₁ Bd hml0 hP hK
  obtain ⟨rfl, hZ, hh⟩ := hP
  have hx := Bd.exec
  have hby := Bd.bytes
  have hml : c.maxLocals = 1 := hml0
  have hown : s.vm.findClass "com/example/kept_inbox/keptinbox/UnreadConversation" = some m.cls := findClass_of_methodNamed Bd.named
  have hnm := (name_of_methodNamed Bd.named Bd.method).1
  have X0 : Stand p l e ({ frames := 0, cells := 0, slots := 0, locals := 0 } : Room) s m #[(.ref a0)] below meth c s₁ [] 0 0 := Stand.of_body Bd
  have e0 : s₁.heap = h0 := by rw [← hh, Bd.state]; rfl
  have N0 := Fr.nil n0
  refine OGo.by (P := fun U' o => ∃ v L, o = .returned v ∧ Q_rm34 Z a0 q h0 n0 v U'.heap L ∧ FrameEnd s o U' L ({ frames := 0, cells := 0, slots := 0, locals := 0 } : Room).cells ({ frames := 0, cells := 0, slots := 0, locals := 0 } : Room).slots) (fun T_ k_ => castTop (ef_rm34 m a0) k_) ?_
  show OGo p e below _ (s₁.setTop (mkF m 0 #[.val (.ref a0)] []))
  refine OGo.by (fun _ k => XS.aloadN X0.here hx rfl (hb hby d34_0) rfl rfl k) ?_
  show OGo p e below _ (s₁.setTop (mkF m 1 #[.val (.ref a0)] [(.ref a0)]))
  obtain ⟨T1, X1, e1, st1⟩ := getF X0 hx hZ hown (host := "") (Or.inl (hw _ (List.mem_of_getElem? (i := 136) rfl))) Via.refl e0 F1 (g := (mkF m 1 #[.val (.ref a0)] [(.ref a0)])) rfl rfl (hb hby d34_1)
  refine OGo.by st1 ?_
  show OGo p e below _ (T1.setTop (mkF m 4 #[.val (.ref a0)] [(.long q)]))
  obtain ⟨fs, hr, hrun, hended, hW, hsame⟩ := X1.leave (v := some (.long q)) (fun h => by rw [Bd.returns] at h; cases h)
  refine OGo.ret (retOut X1 hx Bd.returns rfl (Or.inr (Or.inl ⟨rfl, rfl, _, rfl⟩)) (hb hby d34_4) hr) hrun hended ⟨_, _, rfl, ?_, ⟨_, rfl⟩, hW, hsame.mono (by decide) (by decide)⟩
  show Q_rm34 Z a0 q h0 n0 _ T1.heap _
  rw [e1]
  exact ⟨rfl, N0, rfl⟩
theorem d21_0 : decode jdk_29_method_65_code 0 = .ok (.iload_n 0, 1) := by decide +kernel
theorem d21_1 : decode jdk_29_method_65_code 1 = .ok (.iload_n 1, 1) := by decide +kernel
theorem d21_2 : decode jdk_29_method_65_code 2 = .ok (.if_icmp .lt 7, 3) := by decide +kernel
theorem d21_5 : decode jdk_29_method_65_code 5 = .ok (.iload_n 0, 1) := by decide +kernel
theorem d21_6 : decode jdk_29_method_65_code 6 = .ok (.goto 4, 3) := by decide +kernel
theorem d21_10 : decode jdk_29_method_65_code 10 = .ok (.ireturn, 1) := by decide +kernel
theorem ef_rmMax (m : MethodId)  : entryFrame m #[(.int (10 : Int32)), (.int (1 : Int32))] 2 = mkF m 0 #[.val (.int (10 : Int32)), .val (.int (1 : Int32))] [] := by first | (simp [entryFrame, mkF, argsToLocals, Value.category]; done) | rfl
def Q_rmMax (Z : State)  (h0 : Heap) (n0 : Nat) (v : Option Value) (h : Heap) (L : List Loc) : Prop := v = some (.int (10 : Int32)) ∧ Fr n0 L ∧ h = h0
set_option maxRecDepth 65536 in
set_option maxHeartbeats 40000000 in
theorem rmMax (l : Launch) (Z : State) (av0 : Array Value) (hw : ∀ d ∈ tables_1, d.before av0 Z = true) (ws : List Jvm.Cond)  (h0 : Heap) (n0 : Nat) (Z0 : n0 ≤ h0.size) :
    MetFree l (⟨"java/lang/Math", "max", "(II)I"⟩ : MethodName) (head1 (Jvm.Cond.code (⟨"java/lang/Math", "max", "(II)I"⟩ : MethodName) jdk_29_method_65_code 2 (some .int) :: ws) ({ frames := 0, cells := 0, slots := 0, locals := 0 } : Room)) (fun a U => a = #[(.int (10 : Int32)), (.int (1 : Int32))] ∧ Z.Warmed39 U.vm ∧ U.heap = h0) (fun _ _ _ _ _ => True) (fun _ U o U' => ∃ v L, o = .returned v ∧ Q_rmMax Z  h0 n0 v U'.heap L ∧ FrameEnd U o U' L ({ frames := 0, cells := 0, slots := 0, locals := 0 } : Room).cells ({ frames := 0, cells := 0, slots := 0, locals := 0 } : Room).slots) := by
  refine MetFree.of_bodySF (Jvm.Free.JP.mathPlain rfl (by decide +kernel)) hisR ?_
  intro p e s m args below meth c s₁ Bd hml0 hP hK
  obtain ⟨rfl, hZ, hh⟩ := hP
  have hx := Bd.exec
  have hby := Bd.bytes
  have hml : c.maxLocals = 2 := hml0
  have hown : s.vm.findClass "java/lang/Math" = some m.cls := findClass_of_methodNamed Bd.named
  have hnm := (name_of_methodNamed Bd.named Bd.method).1
  have X0 : Stand p l e ({ frames := 0, cells := 0, slots := 0, locals := 0 } : Room) s m #[(.int (10 : Int32)), (.int (1 : Int32))] below meth c s₁ [] 0 0 := Stand.of_body Bd
  have e0 : s₁.heap = h0 := by rw [← hh, Bd.state]; rfl
  have N0 := Fr.nil n0
  refine OGo.by (P := fun U' o => ∃ v L, o = .returned v ∧ Q_rmMax Z  h0 n0 v U'.heap L ∧ FrameEnd s o U' L ({ frames := 0, cells := 0, slots := 0, locals := 0 } : Room).cells ({ frames := 0, cells := 0, slots := 0, locals := 0 } : Room).slots) (fun T_ k_ => castTop (ef_rmMax m ) k_) ?_
  show OGo p e below _ (s₁.setTop (mkF m 0 #[.val (.int (10 : Int32)), .val (.int (1 : Int32))] []))
  refine OGo.by (fun _ k => XS.iloadN X0.here hx rfl (hb hby d21_0) rfl k) ?_
  show OGo p e below _ (s₁.setTop (mkF m 1 #[.val (.int (10 : Int32)), .val (.int (1 : Int32))] [(.int (10 : Int32))]))
  refine OGo.by (fun _ k => XS.iloadN X0.here hx rfl (hb hby d21_1) rfl k) ?_
  show OGo p e below _ (s₁.setTop (mkF m 2 #[.val (.int (10 : Int32)), .val (.int (1 : Int32))] [(.int (1 : Int32)), (.int (10 : Int32))]))
  refine OGo.by (fun _ k => XS.icmpNo X0.here hx rfl (hb hby d21_2) rfl (flt (by decide : ¬ ((10 : Int32) < (1 : Int32)))).1 k) ?_
  show OGo p e below _ (s₁.setTop (mkF m 5 #[.val (.int (10 : Int32)), .val (.int (1 : Int32))] []))
  refine OGo.by (fun _ k => XS.iloadN X0.here hx rfl (hb hby d21_5) rfl k) ?_
  show OGo p e below _ (s₁.setTop (mkF m 6 #[.val (.int (10 : Int32)), .val (.int (1 : Int32))] [(.int (10 : Int32))]))
  refine OGo.by (fun _ k => XS.goto X0.here hx rfl (pc0 := 6) (pc' := 10) rfl (hb hby d21_6) (by decide) (by decide) k) ?_
  show OGo p e below _ (s₁.setTop (mkF m 10 #[.val (.int (10 : Int32)), .val (.int (1 : Int32))] [(.int (10 : Int32))]))
  obtain ⟨fs, hr, hrun, hended, hW, hsame⟩ := X0.leave (v := some (.int (10 : Int32))) (fun h => by rw [Bd.returns] at h; cases h)
  refine OGo.ret (retI X0 hx Bd.returns (hb hby d21_10) hr) hrun hended ⟨_, _, rfl, ?_, ⟨_, rfl⟩, hW, hsame.mono (by decide) (by decide)⟩
  show Q_rmMax Z  h0 n0 _ s₁.heap _
  rw [e0]
  exact ⟨rfl, N0, rfl⟩
theorem d20_0 : decode jdk_38_method_6_code 0 = .ok (.aload_n 0, 1) := by decide +kernel
theorem d20_1 : decode jdk_38_method_6_code 1 = .ok (.getfield 9, 3) := by decide +kernel
theorem d20_4 : decode jdk_38_method_6_code 4 = .ok (.arraylength, 1) := by decide +kernel
theorem d20_5 : decode jdk_38_method_6_code 5 = .ok (.istore_n 2, 1) := by decide +kernel
theorem d20_6 : decode jdk_38_method_6_code 6 = .ok (.iload_n 2, 1) := by decide +kernel
theorem d20_7 : decode jdk_38_method_6_code 7 = .ok (.ifCond .gt 13, 3) := by decide +kernel
theorem d20_10 : decode jdk_38_method_6_code 10 = .ok (.aload_n 0, 1) := by decide +kernel
theorem d20_11 : decode jdk_38_method_6_code 11 = .ok (.getfield 9, 3) := by decide +kernel
theorem d20_14 : decode jdk_38_method_6_code 14 = .ok (.getstatic 39, 3) := by decide +kernel
theorem d20_17 : decode jdk_38_method_6_code 17 = .ok (.if_acmp .eq 28, 3) := by decide +kernel
theorem d20_45 : decode jdk_38_method_6_code 45 = .ok (.aload_n 0, 1) := by decide +kernel
theorem d20_46 : decode jdk_38_method_6_code 46 = .ok (.bipush 10, 2) := by decide +kernel
theorem d20_48 : decode jdk_38_method_6_code 48 = .ok (.iload_n 1, 1) := by decide +kernel
theorem d20_49 : decode jdk_38_method_6_code 49 = .ok (.invokestatic 79, 3) := by decide +kernel
theorem own_pd1 : parseMethodDescriptor "(II)I" = some ⟨[.int, .int], some .int⟩ := by decide +kernel
theorem d20_52 : decode jdk_38_method_6_code 52 = .ok (.anewarray 7, 3) := by decide +kernel
theorem d20_55 : decode jdk_38_method_6_code 55 = .ok (.dup_x1, 1) := by decide +kernel
theorem d20_56 : decode jdk_38_method_6_code 56 = .ok (.putfield 9, 3) := by decide +kernel
theorem d20_59 : decode jdk_38_method_6_code 59 = .ok (.areturn, 1) := by decide +kernel
theorem own_pn20 : plainName "java/util/ArrayList" = true := by first | (simp [plainName, overriddenIn]; done) | decide +kernel
theorem ef_rm_grow (m : MethodId) (a0 : Addr) (w : Addr) (ke : ClassId) (mc : Int32) : entryFrame m #[(.ref a0), (.int (1 : Int32))] 4 = mkF m 0 #[.val (.ref a0), .val (.int (1 : Int32)), .unset, .unset] [] := by first | (simp [entryFrame, mkF, argsToLocals, Value.category]; done) | rfl
def Q_rm_grow (Z : State) (a0 : Addr) (w : Addr) (ke : ClassId) (mc : Int32) (h0 : Heap) (n0 : Nat) (v : Option Value) (h : Heap) (L : List Loc) : Prop := ∃ b : Addr, ∃ kb : ClassId, v = some (.ref b) ∧ Fr n0 L ∧ Keep h0 h [a0] ∧ (h0.size ≤ b) ∧ (n0 ≤ b) ∧ (Exa Z h a0 "java/util/ArrayList") ∧ (Fld Z h a0 "java/util/AbstractList" "modCount" "I" (.int mc)) ∧ (Fld Z h a0 "java/util/ArrayList" "size" "I" (.int (0 : Int32))) ∧ (Fld Z h a0 "java/util/ArrayList" "elementData" "[Ljava/lang/Object;" (.ref b)) ∧ (Arv Z h b kb (.object "java/lang/Object") (10 : Int32) [.null, .null, .null, .null, .null, .null, .null, .null, .null, .null] .null) ∧ (Exa Z h b "[Ljava/lang/Object;") ∧ (Ovr Z kb "java/lang/Object")
set_option maxRecDepth 65536 in
set_option maxHeartbeats 40000000 in
theorem rm_grow (l : Launch) (Z : State) (av0 : Array Value) (hw : ∀ d ∈ tables_1, d.before av0 Z = true) (ws : List Jvm.Cond) (a0 : Addr) (w : Addr) (ke : ClassId) (mc : Int32) (h0 : Heap) (n0 : Nat) (Z0 : n0 ≤ h0.size) (f_0 : Exa Z h0 a0 "java/util/ArrayList") (f_1 : Fld Z h0 a0 "java/util/AbstractList" "modCount" "I" (.int mc)) (f_2 : Fld Z h0 a0 "java/util/ArrayList" "size" "I" (.int (0 : Int32))) (f_3 : Fld Z h0 a0 "java/util/ArrayList" "elementData" "[Ljava/lang/Object;" (.ref w)) (A_w : Arv Z h0 w ke (.object "java/lang/Object") (0 : Int32) [] .null) (O_0 : Old Z n0 h0) (S_d : Sta Z Z.heap "java/util/ArrayList" "DEFAULTCAPACITY_EMPTY_ELEMENTDATA" "[Ljava/lang/Object;" (.ref w)) (g_a0 : n0 ≤ a0) :
    MetFree l (⟨"java/util/ArrayList", "grow", "(I)[Ljava/lang/Object;"⟩ : MethodName) (head1 (Jvm.Cond.code (⟨"java/util/ArrayList", "grow", "(I)[Ljava/lang/Object;"⟩ : MethodName) jdk_38_method_6_code 4 (some (.array (.object "java/lang/Object"))) :: ws) ({ frames := 1, cells := 1, slots := 10, locals := 14 } : Room)) (fun a U => a = #[(.ref a0), (.int (1 : Int32))] ∧ Z.Warmed39 U.vm ∧ U.heap = h0) (fun _ _ _ _ _ => True) (fun _ U o U' => ∃ v L, o = .returned v ∧ Q_rm_grow Z a0 w ke mc h0 n0 v U'.heap L ∧ FrameEnd U o U' L ({ frames := 1, cells := 1, slots := 10, locals := 14 } : Room).cells ({ frames := 1, cells := 1, slots := 10, locals := 14 } : Room).slots) := by
  refine MetFree.of_bodySF (plainFor_of_name own_pn20) hisR ?_
  intro p e s m args below meth c s₁ Bd hml0 hP hK
  obtain ⟨rfl, hZ, hh⟩ := hP
  have hx := Bd.exec
  have hby := Bd.bytes
  have hml : c.maxLocals = 4 := hml0
  have hown : s.vm.findClass "java/util/ArrayList" = some m.cls := findClass_of_methodNamed Bd.named
  have hnm := (name_of_methodNamed Bd.named Bd.method).1
  have X0 : Stand p l e ({ frames := 1, cells := 1, slots := 10, locals := 14 } : Room) s m #[(.ref a0), (.int (1 : Int32))] below meth c s₁ [] 0 0 := Stand.of_body Bd
  have e0 : s₁.heap = h0 := by rw [← hh, Bd.state]; rfl
  have N0 := Fr.nil n0
  refine OGo.by (P := fun U' o => ∃ v L, o = .returned v ∧ Q_rm_grow Z a0 w ke mc h0 n0 v U'.heap L ∧ FrameEnd s o U' L ({ frames := 1, cells := 1, slots := 10, locals := 14 } : Room).cells ({ frames := 1, cells := 1, slots := 10, locals := 14 } : Room).slots) (fun T_ k_ => castTop (ef_rm_grow m a0 w ke mc) k_) ?_
  show OGo p e below _ (s₁.setTop (mkF m 0 #[.val (.ref a0), .val (.int (1 : Int32)), .unset, .unset] []))
  refine OGo.by (fun _ k => XS.aloadN X0.here hx rfl (hb hby d20_0) rfl rfl k) ?_
  show OGo p e below _ (s₁.setTop (mkF m 1 #[.val (.ref a0), .val (.int (1 : Int32)), .unset, .unset] [(.ref a0)]))
  obtain ⟨T1, X1, e1, st1⟩ := getF X0 hx hZ hown (host := "") (Or.inl (hw _ (List.mem_of_getElem? (i := 24) rfl))) Via.refl e0 f_3 (g := (mkF m 1 #[.val (.ref a0), .val (.int (1 : Int32)), .unset, .unset] [(.ref a0)])) rfl rfl (hb hby d20_1)
  refine OGo.by st1 ?_
  show OGo p e below _ (T1.setTop (mkF m 4 #[.val (.ref a0), .val (.int (1 : Int32)), .unset, .unset] [(.ref w)]))
  obtain ⟨cl2, Ar2, q2, S2, M2, -, -⟩ := id A_w
  refine OGo.by (X1.arraylength hx (by rw [e1]; exact Ar2.1) (State.isArrayOf_alike hZ.alike Ar2.2.1) (g := (mkF m 4 #[.val (.ref a0), .val (.int (1 : Int32)), .unset, .unset] [(.ref w)])) rfl rfl (hb hby d20_4)) ?_
  rw [len_of S2 M2]
  show OGo p e below _ (T1.setTop (mkF m 5 #[.val (.ref a0), .val (.int (1 : Int32)), .unset, .unset] [(.int (0 : Int32))]))
  refine OGo.by (fun _ k => XS.istoreN X1.here hx rfl (hb hby d20_5) rfl (l' := #[.val (.ref a0), .val (.int (1 : Int32)), .val (.int (0 : Int32)), .unset]) rfl k) ?_
  show OGo p e below _ (T1.setTop (mkF m 6 #[.val (.ref a0), .val (.int (1 : Int32)), .val (.int (0 : Int32)), .unset] []))
  refine OGo.by (fun _ k => XS.iloadN X1.here hx rfl (hb hby d20_6) rfl k) ?_
  show OGo p e below _ (T1.setTop (mkF m 7 #[.val (.ref a0), .val (.int (1 : Int32)), .val (.int (0 : Int32)), .unset] [(.int (0 : Int32))]))
  refine OGo.by (fun _ k => XS.ifNo X1.here hx rfl (hb hby d20_7) rfl ((if0 _ _).trans (flt (by decide : ¬ ((0 : Int32) < (0 : Int32)))).2.2.1) k) ?_
  show OGo p e below _ (T1.setTop (mkF m 10 #[.val (.ref a0), .val (.int (1 : Int32)), .val (.int (0 : Int32)), .unset] []))
  refine OGo.by (fun _ k => XS.aloadN X1.here hx rfl (hb hby d20_10) rfl rfl k) ?_
  show OGo p e below _ (T1.setTop (mkF m 11 #[.val (.ref a0), .val (.int (1 : Int32)), .val (.int (0 : Int32)), .unset] [(.ref a0)]))
  obtain ⟨T3, X3, e3, st3⟩ := getF X1 hx hZ hown (host := "") (Or.inl (hw _ (List.mem_of_getElem? (i := 24) rfl))) Via.refl e1 f_3 (g := (mkF m 11 #[.val (.ref a0), .val (.int (1 : Int32)), .val (.int (0 : Int32)), .unset] [(.ref a0)])) rfl rfl (hb hby d20_11)
  refine OGo.by st3 ?_
  show OGo p e below _ (T3.setTop (mkF m 14 #[.val (.ref a0), .val (.int (1 : Int32)), .val (.int (0 : Int32)), .unset] [(.ref w)]))
  obtain ⟨T4, X4, e4, st4⟩ := getS2 X3 hx hZ hown (host := "") (Or.inl (hw _ (List.mem_of_getElem? (i := 23) rfl))) Via.refl e3 (S_d.ext O_0.2) (g := (mkF m 14 #[.val (.ref a0), .val (.int (1 : Int32)), .val (.int (0 : Int32)), .unset] [(.ref w)])) rfl (hb hby d20_14)
  refine OGo.by st4 ?_
  show OGo p e below _ (T4.setTop (mkF m 17 #[.val (.ref a0), .val (.int (1 : Int32)), .val (.int (0 : Int32)), .unset] [(.ref w), (.ref w)]))
  refine OGo.by (fun _ k => Jvm.RoadKit.acmp (g := (mkF m 17 #[.val (.ref a0), .val (.int (1 : Int32)), .val (.int (0 : Int32)), .unset] [(.ref w), (.ref w)])) X4 hx rfl rfl rfl (pc0 := 17) (pc' := 45) (same := true) rfl (hb hby d20_17) rfl (decide_eq_true rfl) (by decide) (by decide) k) ?_
  show OGo p e below _ (T4.setTop (mkF m 45 #[.val (.ref a0), .val (.int (1 : Int32)), .val (.int (0 : Int32)), .unset] []))
  refine OGo.by (fun _ k => XS.aloadN X4.here hx rfl (hb hby d20_45) rfl rfl k) ?_
  show OGo p e below _ (T4.setTop (mkF m 46 #[.val (.ref a0), .val (.int (1 : Int32)), .val (.int (0 : Int32)), .unset] [(.ref a0)]))
  refine OGo.by (fun _ k => XS.bipush X4.here hx rfl (hb hby d20_46) k) ?_
  show OGo p e below _ (T4.setTop (mkF m 48 #[.val (.ref a0), .val (.int (1 : Int32)), .val (.int (0 : Int32)), .unset] [(.int (10 : Int32)), (.ref a0)]))
  refine OGo.by (fun _ k => XS.iloadN X4.here hx rfl (hb hby d20_48) rfl k) ?_
  show OGo p e below _ (T4.setTop (mkF m 49 #[.val (.ref a0), .val (.int (1 : Int32)), .val (.int (0 : Int32)), .unset] [(.int (1 : Int32)), (.int (10 : Int32)), (.ref a0)]))
  obtain ⟨_, _, ⟨T5, L5, k5, n5⟩, -, X5, ⟨Lc5, hQ5, l5, y5, z5⟩, st5⟩ := Jvm.LawKit.callS X4 hx (y := (⟨"java/lang/Math", "max", "(II)I"⟩ : MethodName)) hown (mvT hZ (hw _ (List.mem_of_getElem? (i := 162) rfl))) (mvT hZ (hw _ (List.mem_of_getElem? (i := 163) rfl))) (mvT hZ (hw _ (List.mem_of_getElem? (i := 164) rfl))) (mvT hZ (hw _ (List.mem_of_getElem? (i := 165) rfl))) (by decide) (backOf (W := 1) (rmMax l Z av0 hw [] h0 n0 Z0) hZ (hw _ (List.mem_of_getElem? (i := 165) rfl)) (hw _ (List.mem_of_getElem? (i := 164) rfl)) (by decide) (by decide)) (g := (mkF m 49 #[.val (.ref a0), .val (.int (1 : Int32)), .val (.int (0 : Int32)), .unset] [(.int (1 : Int32)), (.int (10 : Int32)), (.ref a0)])) rfl (by rw [hml]; rfl) (argsL := [(.int (10 : Int32)), (.int (1 : Int32))]) (rest := [(.ref a0)]) (lenOf own_pd1 rfl) rfl (by show 2 * 0 + _ ≤ _; exact Nat.le_of_eq rfl) (hb hby d20_49) (fun _ _ => ⟨rfl, e4, (by decide : 0 + 0 ≤ _), (by decide : 0 + 0 ≤ _)⟩)
  dsimp only [Pt.U, Pt.locs, Pt.cells, Pt.slots] at X5 l5 y5 z5 st5 hQ5
  subst l5 y5 z5
  obtain ⟨rfl, N5q, e5⟩ := hQ5
  have N5 := Fr.app N0 N5q
  refine OGo.by st5 ?_
  show OGo p e below _ (T5.setTop (mkF m 52 #[.val (.ref a0), .val (.int (1 : Int32)), .val (.int (0 : Int32)), .unset] [(.int (10 : Int32)), (.ref a0)]))
  obtain ⟨T6, h6, k6, X6, e6, E6, A6, XA6, O6, st6⟩ := newRE X5 hx hZ hown (hw _ (List.mem_of_getElem? (i := 166) rfl)) (hw _ (List.mem_of_getElem? (i := 167) rfl)) e5 (g := (mkF m 52 #[.val (.ref a0), .val (.int (1 : Int32)), .val (.int (0 : Int32)), .unset] [(.int (10 : Int32)), (.ref a0)])) rfl (hb hby d20_52) rfl (by decide : ¬ ((10 : Int32) < (0 : Int32))) (cap := 10) (by decide) (by decide) (by decide) (by decide) (ad := "[Ljava/lang/Object;") (by decide)
  obtain ⟨b6, g6⟩ : ∃ z, z = h0.size := ⟨_, rfl⟩
  rw [← g6] at A6 XA6 st6
  have ne_a0_b6 : a0 ≠ b6 := Nat.ne_of_lt (Nat.lt_of_lt_of_le f_0.lt (Nat.le_of_eq g6.symm))
  have ne_w_b6 : w ≠ b6 := Nat.ne_of_lt (Nat.lt_of_lt_of_le A_w.lt (Nat.le_of_eq g6.symm))
  have g_b6 : n0 ≤ b6 := Nat.le_trans Z0 (Nat.le_of_eq g6.symm)
  have sz_b6 : h0.size ≤ b6 := Nat.le_trans (Nat.le_refl _) (Nat.le_of_eq g6.symm)
  refine OGo.by st6 ?_
  have K6 : Keep h0 h6 [a0] := ((Keep.refl h0 [a0])).ext E6
  have V6 : Arv Z h6 b6 k6 (.object "java/lang/Object") (10 : Int32) [.null, .null, .null, .null, .null, .null, .null, .null, .null, .null] .null := (Arv.new A6 (by decide)).pad (pad_rep [] .null 10)
  show OGo p e below _ (T6.setTop (mkF m 55 #[.val (.ref a0), .val (.int (1 : Int32)), .val (.int (0 : Int32)), .unset] [(.ref b6), (.ref a0)]))
  refine OGo.by (fun _ k => XS.dupX1 X6.here hx rfl (hb hby d20_55) rfl rfl rfl k) ?_
  show OGo p e below _ (T6.setTop (mkF m 56 #[.val (.ref a0), .val (.int (1 : Int32)), .val (.int (0 : Int32)), .unset] [(.ref b6), (.ref a0), (.ref b6)]))
  have f7 : Exa Z h6 a0 "java/util/ArrayList" := (f_0.ext E6)
  have f8 : Fld Z h6 a0 "java/util/ArrayList" "elementData" "[Ljava/lang/Object;" (.ref w) := (f_3.ext E6)
  obtain ⟨T9, h9, X9, e9, W9, st9⟩ := putF X6 hx hZ hown (host := "") (Or.inl (hw _ (List.mem_of_getElem? (i := 24) rfl))) Via.refl e6 f8 f7 (Or.inl (hw _ (List.mem_of_getElem? (i := 25) rfl))) (hw _ (List.mem_of_getElem? (i := 1) rfl)) (ty := (.array (.object "java/lang/Object"))) (by decide) rfl rfl (g := (mkF m 56 #[.val (.ref a0), .val (.int (1 : Int32)), .val (.int (0 : Int32)), .unset] [(.ref b6), (.ref a0), (.ref b6)])) rfl rfl (hb hby d20_56)
  refine OGo.by st9 ?_
  have Fw9 := f8.same W9
  have N9 := Fr.snoc X9 N5 g_a0
  have K9 : Keep h0 h9 [a0] := (K6).wr W9 (Or.inl (List.mem_of_getElem? (i := 0) rfl))
  show OGo p e below _ (T9.setTop (mkF m 59 #[.val (.ref a0), .val (.int (1 : Int32)), .val (.int (0 : Int32)), .unset] [(.ref b6)]))
  obtain ⟨fs, hr, hrun, hended, hW, hsame⟩ := X9.leave (v := some (.ref b6)) (fun h => by rw [Bd.returns] at h; cases h)
  refine OGo.ret (retOut X9 hx Bd.returns rfl (Or.inr (Or.inr (Or.inr (Or.inr ⟨rfl, rfl, rfl⟩)))) (hb hby d20_59) hr) hrun hended ⟨_, _, rfl, ?_, ⟨_, rfl⟩, hW, hsame.mono (by decide) (by decide)⟩
  show Q_rm_grow Z a0 w ke mc h0 n0 _ T9.heap _
  rw [e9]
  have f10 : Exa Z h9 a0 "java/util/ArrayList" := (f7.wr W9)
  have f11 : Fld Z h9 a0 "java/util/AbstractList" "modCount" "I" (.int mc) := ((f_1.ext E6).other W9 (Or.inr (slot_ne (Or.inl (hw _ (List.mem_of_getElem? (i := 22) rfl))) (Or.inl (hw _ (List.mem_of_getElem? (i := 25) rfl))) (by decide) (t := .int) (t' := (.array (.object "java/lang/Object"))) (by decide) (by decide))))
  have f12 : Fld Z h9 a0 "java/util/ArrayList" "size" "I" (.int (0 : Int32)) := ((f_2.ext E6).other W9 (Or.inr (slot_ne (Or.inl (hw _ (List.mem_of_getElem? (i := 62) rfl))) (Or.inl (hw _ (List.mem_of_getElem? (i := 25) rfl))) (by decide) (t := .int) (t' := (.array (.object "java/lang/Object"))) (by decide) (by decide))))
  have f13 : Arv Z h9 b6 k6 (.object "java/lang/Object") (10 : Int32) [.null, .null, .null, .null, .null, .null, .null, .null, .null, .null] .null := (V6.other W9 (Ne.symm ne_a0_b6))
  have f14 : Exa Z h9 b6 "[Ljava/lang/Object;" := (XA6.wr W9)
  exact ⟨b6, k6, rfl, N9, K9, sz_b6, g_b6, f10, f11, f12, Fw9, f13, f14, O6⟩
theorem d19_0 : decode jdk_38_method_7_code 0 = .ok (.aload_n 0, 1) := by decide +kernel
theorem d19_1 : decode jdk_38_method_7_code 1 = .ok (.aload_n 0, 1) := by decide +kernel
theorem d19_2 : decode jdk_38_method_7_code 2 = .ok (.getfield 48, 3) := by decide +kernel
theorem d19_5 : decode jdk_38_method_7_code 5 = .ok (.iconst 1, 1) := by decide +kernel
theorem d19_6 : decode jdk_38_method_7_code 6 = .ok (.iadd, 1) := by decide +kernel
theorem d19_7 : decode jdk_38_method_7_code 7 = .ok (.invokevirtual 69, 3) := by decide +kernel
theorem own_pd2 : parseMethodDescriptor "(I)[Ljava/lang/Object;" = some ⟨[.int], some (.array (.object "java/lang/Object"))⟩ := by decide +kernel
theorem d19_10 : decode jdk_38_method_7_code 10 = .ok (.areturn, 1) := by decide +kernel
theorem own_pn19 : plainName "java/util/ArrayList" = true := by first | (simp [plainName, overriddenIn]; done) | decide +kernel
theorem ef_rm_grow0 (m : MethodId) (a0 : Addr) : entryFrame m #[(.ref a0)] 1 = mkF m 0 #[.val (.ref a0)] [] := by first | (simp [entryFrame, mkF, argsToLocals, Value.category]; done) | rfl
def Q_rm_grow0 (Z : State) (a0 : Addr) (w : Addr) (ke : ClassId) (mc : Int32) (h0 : Heap) (n0 : Nat) (v : Option Value) (h : Heap) (L : List Loc) : Prop := ∃ b : Addr, ∃ kb : ClassId, v = some (.ref b) ∧ Fr n0 L ∧ Keep h0 h [a0] ∧ (h0.size ≤ b) ∧ (n0 ≤ b) ∧ (Exa Z h a0 "java/util/ArrayList") ∧ (Fld Z h a0 "java/util/AbstractList" "modCount" "I" (.int mc)) ∧ (Fld Z h a0 "java/util/ArrayList" "size" "I" (.int (0 : Int32))) ∧ (Fld Z h a0 "java/util/ArrayList" "elementData" "[Ljava/lang/Object;" (.ref b)) ∧ (Arv Z h b kb (.object "java/lang/Object") (10 : Int32) [.null, .null, .null, .null, .null, .null, .null, .null, .null, .null] .null) ∧ (Exa Z h b "[Ljava/lang/Object;") ∧ (Ovr Z kb "java/lang/Object")
set_option maxRecDepth 65536 in
set_option maxHeartbeats 40000000 in
theorem rm_grow0 (l : Launch) (Z : State) (av0 : Array Value) (hw : ∀ d ∈ tables_1, d.before av0 Z = true) (ws : List Jvm.Cond) (a0 : Addr) (w : Addr) (ke : ClassId) (mc : Int32) (h0 : Heap) (n0 : Nat) (Z0 : n0 ≤ h0.size) (f_0 : Exa Z h0 a0 "java/util/ArrayList") (f_1 : Fld Z h0 a0 "java/util/AbstractList" "modCount" "I" (.int mc)) (f_2 : Fld Z h0 a0 "java/util/ArrayList" "size" "I" (.int (0 : Int32))) (f_3 : Fld Z h0 a0 "java/util/ArrayList" "elementData" "[Ljava/lang/Object;" (.ref w)) (A_w : Arv Z h0 w ke (.object "java/lang/Object") (0 : Int32) [] .null) (O_0 : Old Z n0 h0) (S_d : Sta Z Z.heap "java/util/ArrayList" "DEFAULTCAPACITY_EMPTY_ELEMENTDATA" "[Ljava/lang/Object;" (.ref w)) (g_a0 : n0 ≤ a0) :
    MetFree l (⟨"java/util/ArrayList", "grow", "()[Ljava/lang/Object;"⟩ : MethodName) (head1 (Jvm.Cond.code (⟨"java/util/ArrayList", "grow", "()[Ljava/lang/Object;"⟩ : MethodName) jdk_38_method_7_code 1 (some (.array (.object "java/lang/Object"))) :: ws) ({ frames := 2, cells := 1, slots := 10, locals := 29 } : Room)) (fun a U => a = #[(.ref a0)] ∧ Z.Warmed39 U.vm ∧ U.heap = h0) (fun _ _ _ _ _ => True) (fun _ U o U' => ∃ v L, o = .returned v ∧ Q_rm_grow0 Z a0 w ke mc h0 n0 v U'.heap L ∧ FrameEnd U o U' L ({ frames := 2, cells := 1, slots := 10, locals := 29 } : Room).cells ({ frames := 2, cells := 1, slots := 10, locals := 29 } : Room).slots) := by
  refine MetFree.of_bodySF (plainFor_of_name own_pn19) hisR ?_
  intro p e s m args below meth c s₁ Bd hml0 hP hK
  obtain ⟨rfl, hZ, hh⟩ := hP
  have hx := Bd.exec
  have hby := Bd.bytes
  have hml : c.maxLocals = 1 := hml0
  have hown : s.vm.findClass "java/util/ArrayList" = some m.cls := findClass_of_methodNamed Bd.named
  have hnm := (name_of_methodNamed Bd.named Bd.method).1
  have X0 : Stand p l e ({ frames := 2, cells := 1, slots := 10, locals := 29 } : Room) s m #[(.ref a0)] below meth c s₁ [] 0 0 := Stand.of_body Bd
  have e0 : s₁.heap = h0 := by rw [← hh, Bd.state]; rfl
  have N0 := Fr.nil n0
  refine OGo.by (P := fun U' o => ∃ v L, o = .returned v ∧ Q_rm_grow0 Z a0 w ke mc h0 n0 v U'.heap L ∧ FrameEnd s o U' L ({ frames := 2, cells := 1, slots := 10, locals := 29 } : Room).cells ({ frames := 2, cells := 1, slots := 10, locals := 29 } : Room).slots) (fun T_ k_ => castTop (ef_rm_grow0 m a0) k_) ?_
  show OGo p e below _ (s₁.setTop (mkF m 0 #[.val (.ref a0)] []))
  refine OGo.by (fun _ k => XS.aloadN X0.here hx rfl (hb hby d19_0) rfl rfl k) ?_
  show OGo p e below _ (s₁.setTop (mkF m 1 #[.val (.ref a0)] [(.ref a0)]))
  refine OGo.by (fun _ k => XS.aloadN X0.here hx rfl (hb hby d19_1) rfl rfl k) ?_
  show OGo p e below _ (s₁.setTop (mkF m 2 #[.val (.ref a0)] [(.ref a0), (.ref a0)]))
  obtain ⟨T1, X1, e1, st1⟩ := getF X0 hx hZ hown (host := "") (Or.inl (hw _ (List.mem_of_getElem? (i := 61) rfl))) Via.refl e0 f_2 (g := (mkF m 2 #[.val (.ref a0)] [(.ref a0), (.ref a0)])) rfl rfl (hb hby d19_2)
  refine OGo.by st1 ?_
  show OGo p e below _ (T1.setTop (mkF m 5 #[.val (.ref a0)] [(.int (0 : Int32)), (.ref a0)]))
  refine OGo.by (fun _ k => XS.iconst X1.here hx rfl (hb hby d19_5) k) ?_
  show OGo p e below _ (T1.setTop (mkF m 6 #[.val (.ref a0)] [(.int (1 : Int32)), (.int (0 : Int32)), (.ref a0)]))
  refine OGo.by (fun _ k => XS.iadd X1.here hx rfl (hb hby d19_6) rfl k) ?_
  show OGo p e below _ (T1.setTop (mkF m 7 #[.val (.ref a0)] [(.int (1 : Int32)), (.ref a0)]))
  obtain ⟨cq2, q2, q2'⟩ := f_0.cell
  obtain ⟨_, _, ⟨T2, L2, k2, n2⟩, -, X2, ⟨Lc2, hQ2, l2, y2, z2⟩, st2⟩ := X1.privateBack hx (y := (⟨"java/util/ArrayList", "grow", "(I)[Ljava/lang/Object;"⟩ : MethodName)) hown (mvT hZ (hw _ (List.mem_of_getElem? (i := 157) rfl))) (mvT hZ (hw _ (List.mem_of_getElem? (i := 158) rfl))) (mvT hZ (hw _ (List.mem_of_getElem? (i := 160) rfl))) (Cond.privateMethod_at (mvP hZ (hw _ (List.mem_of_getElem? (i := 159) rfl)) (args := #[]))) (mvT hZ (hw _ (List.mem_of_getElem? (i := 161) rfl))) (by decide) (backOf (W := 0) (rm_grow l Z av0 hw [] a0 w ke mc h0 n0 Z0 f_0 f_1 f_2 f_3 A_w O_0 S_d g_a0) hZ (hw _ (List.mem_of_getElem? (i := 161) rfl)) (hw _ (List.mem_of_getElem? (i := 2) rfl)) (by decide) (by decide)) (g := (mkF m 7 #[.val (.ref a0)] [(.int (1 : Int32)), (.ref a0)])) rfl (by rw [hml]; rfl) (Steps.refl _) (a := a0) (by rw [e1]; exact q2) q2' (argsL := [(.int (1 : Int32))]) (rest := []) (lenOf own_pd2 rfl) rfl (by show 2 * 0 + _ ≤ _; exact Nat.le_of_eq rfl) (hb hby d19_7) (fun _ _ => ⟨rfl, e1, (by decide : 0 + 1 ≤ _), (by decide : 0 + 10 ≤ _)⟩)
  dsimp only [Pt.U, Pt.locs, Pt.cells, Pt.slots] at X2 l2 y2 z2 st2 hQ2
  subst l2 y2 z2
  obtain ⟨b_2, kb_2, rfl, N2q, Kc2, G2_0, G2_1, G2_2, G2_3, G2_4, G2_5, G2_6, G2_7, G2_8⟩ := hQ2
  have N2 := Fr.app N0 N2q
  have ne_a0_b_2 : a0 ≠ b_2 := Nat.ne_of_lt (Nat.lt_of_lt_of_le f_0.lt G2_0)
  have ne_w_b_2 : w ≠ b_2 := Nat.ne_of_lt (Nat.lt_of_lt_of_le A_w.lt G2_0)
  have g_b_2 : n0 ≤ b_2 := Nat.le_trans Z0 G2_0
  have sz_b_2 : h0.size ≤ b_2 := Nat.le_trans (Nat.le_refl _) G2_0
  have K2 : Keep h0 T2.heap [a0] := ((Keep.refl h0 [a0])).trans Kc2 (allS (P := fun x => x ∈ ([a0] : List Addr) ∨ h0.size ≤ x) (Or.inl (List.mem_of_getElem? (i := 0) rfl)) (all0 (P := fun x => x ∈ ([a0] : List Addr) ∨ h0.size ≤ x)))
  refine OGo.of st2 ?_
  show OGo p e below _ (T2.setTop (mkF m 10 #[.val (.ref a0)] [(.ref b_2)]))
  obtain ⟨fs, hr, hrun, hended, hW, hsame⟩ := X2.leave (v := some (.ref b_2)) (fun h => by rw [Bd.returns] at h; cases h)
  refine OGo.ret (retOut X2 hx Bd.returns rfl (Or.inr (Or.inr (Or.inr (Or.inr ⟨rfl, rfl, rfl⟩)))) (hb hby d19_10) hr) hrun hended ⟨_, _, rfl, ?_, ⟨_, rfl⟩, hW, hsame.mono (by decide) (by decide)⟩
  show Q_rm_grow0 Z a0 w ke mc h0 n0 _ T2.heap _
  exact ⟨b_2, kb_2, rfl, N2, K2, sz_b_2, g_b_2, G2_2, G2_3, G2_4, G2_5, G2_6, G2_7, G2_8⟩
theorem d18_0 : decode jdk_38_method_24_code 0 = .ok (.iload_n 3, 1) := by decide +kernel
theorem d18_1 : decode jdk_38_method_24_code 1 = .ok (.aload_n 2, 1) := by decide +kernel
theorem d18_2 : decode jdk_38_method_24_code 2 = .ok (.arraylength, 1) := by decide +kernel
theorem d18_3 : decode jdk_38_method_24_code 3 = .ok (.if_icmp .ne 8, 3) := by decide +kernel
theorem d18_6 : decode jdk_38_method_24_code 6 = .ok (.aload_n 0, 1) := by decide +kernel
theorem d18_7 : decode jdk_38_method_24_code 7 = .ok (.invokevirtual 129, 3) := by decide +kernel
theorem own_pd3 : parseMethodDescriptor "()[Ljava/lang/Object;" = some ⟨[], some (.array (.object "java/lang/Object"))⟩ := by decide +kernel
theorem d18_10 : decode jdk_38_method_24_code 10 = .ok (.astore_n 2, 1) := by decide +kernel
theorem d18_11 : decode jdk_38_method_24_code 11 = .ok (.aload_n 2, 1) := by decide +kernel
theorem d18_12 : decode jdk_38_method_24_code 12 = .ok (.iload_n 3, 1) := by decide +kernel
theorem d18_13 : decode jdk_38_method_24_code 13 = .ok (.aload_n 1, 1) := by decide +kernel
theorem d18_14 : decode jdk_38_method_24_code 14 = .ok (.aastore, 1) := by decide +kernel
theorem d18_15 : decode jdk_38_method_24_code 15 = .ok (.aload_n 0, 1) := by decide +kernel
theorem d18_16 : decode jdk_38_method_24_code 16 = .ok (.iload_n 3, 1) := by decide +kernel
theorem d18_17 : decode jdk_38_method_24_code 17 = .ok (.iconst 1, 1) := by decide +kernel
theorem d18_18 : decode jdk_38_method_24_code 18 = .ok (.iadd, 1) := by decide +kernel
theorem d18_19 : decode jdk_38_method_24_code 19 = .ok (.putfield 48, 3) := by decide +kernel
theorem d18_22 : decode jdk_38_method_24_code 22 = .ok (.return_, 1) := by decide +kernel
theorem own_pn18 : plainName "java/util/ArrayList" = true := by first | (simp [plainName, overriddenIn]; done) | decide +kernel
theorem ef_rm_addH0 (m : MethodId) (a0 : Addr) (a1 : Addr) (w : Addr) (ke : ClassId) (mc : Int32) : entryFrame m #[(.ref a0), (.ref a1), (.ref w), (.int (0 : Int32))] 4 = mkF m 0 #[.val (.ref a0), .val (.ref a1), .val (.ref w), .val (.int (0 : Int32))] [] := by first | (simp [entryFrame, mkF, argsToLocals, Value.category]; done) | rfl
def Q_rm_addH0 (Z : State) (a0 : Addr) (a1 : Addr) (w : Addr) (ke : ClassId) (mc : Int32) (h0 : Heap) (n0 : Nat) (v : Option Value) (h : Heap) (L : List Loc) : Prop := ∃ b : Addr, ∃ kb : ClassId, v = none ∧ Fr n0 L ∧ Keep h0 h [a0] ∧ (h0.size ≤ b) ∧ (n0 ≤ b) ∧ (Exa Z h a0 "java/util/ArrayList") ∧ (Fld Z h a0 "java/util/AbstractList" "modCount" "I" (.int mc)) ∧ (Fld Z h a0 "java/util/ArrayList" "size" "I" (.int (1 : Int32))) ∧ (Fld Z h a0 "java/util/ArrayList" "elementData" "[Ljava/lang/Object;" (.ref b)) ∧ (Arv Z h b kb (.object "java/lang/Object") (10 : Int32) [(.ref a1), .null, .null, .null, .null, .null, .null, .null, .null, .null] .null) ∧ (Exa Z h b "[Ljava/lang/Object;") ∧ (Ovr Z kb "java/lang/Object")
set_option maxRecDepth 65536 in
set_option maxHeartbeats 40000000 in
theorem rm_addH0 (l : Launch) (Z : State) (av0 : Array Value) (hw : ∀ d ∈ tables_1, d.before av0 Z = true) (ws : List Jvm.Cond) (a0 : Addr) (a1 : Addr) (w : Addr) (ke : ClassId) (mc : Int32) (h0 : Heap) (n0 : Nat) (Z0 : n0 ≤ h0.size) (f_0 : Exa Z h0 a0 "java/util/ArrayList") (f_1 : Fld Z h0 a0 "java/util/AbstractList" "modCount" "I" (.int mc)) (f_2 : Fld Z h0 a0 "java/util/ArrayList" "size" "I" (.int (0 : Int32))) (f_3 : Fld Z h0 a0 "java/util/ArrayList" "elementData" "[Ljava/lang/Object;" (.ref w)) (A_w : Arv Z h0 w ke (.object "java/lang/Object") (0 : Int32) [] .null) (O_0 : Old Z n0 h0) (S_d : Sta Z Z.heap "java/util/ArrayList" "DEFAULTCAPACITY_EMPTY_ELEMENTDATA" "[Ljava/lang/Object;" (.ref w)) (g_a0 : n0 ≤ a0) (E_1 : Exa Z h0 a1 "com/example/kept_inbox/keptinbox/UnreadConversation") (ne_wa : w ≠ a0) :
    MetFree l (⟨"java/util/ArrayList", "add", "(Ljava/lang/Object;[Ljava/lang/Object;I)V"⟩ : MethodName) (head1 (Jvm.Cond.code (⟨"java/util/ArrayList", "add", "(Ljava/lang/Object;[Ljava/lang/Object;I)V"⟩ : MethodName) jdk_38_method_24_code 4 none :: ws) ({ frames := 3, cells := 1, slots := 10, locals := 41 } : Room)) (fun a U => a = #[(.ref a0), (.ref a1), (.ref w), (.int (0 : Int32))] ∧ Z.Warmed39 U.vm ∧ U.heap = h0) (fun _ _ _ _ _ => True) (fun _ U o U' => ∃ v L, o = .returned v ∧ Q_rm_addH0 Z a0 a1 w ke mc h0 n0 v U'.heap L ∧ FrameEnd U o U' L ({ frames := 3, cells := 1, slots := 10, locals := 41 } : Room).cells ({ frames := 3, cells := 1, slots := 10, locals := 41 } : Room).slots) := by
  refine MetFree.of_bodySF (plainFor_of_name own_pn18) hisR ?_
  intro p e s m args below meth c s₁ Bd hml0 hP hK
  obtain ⟨rfl, hZ, hh⟩ := hP
  have hx := Bd.exec
  have hby := Bd.bytes
  have hml : c.maxLocals = 4 := hml0
  have hown : s.vm.findClass "java/util/ArrayList" = some m.cls := findClass_of_methodNamed Bd.named
  have hnm := (name_of_methodNamed Bd.named Bd.method).1
  have X0 : Stand p l e ({ frames := 3, cells := 1, slots := 10, locals := 41 } : Room) s m #[(.ref a0), (.ref a1), (.ref w), (.int (0 : Int32))] below meth c s₁ [] 0 0 := Stand.of_body Bd
  have e0 : s₁.heap = h0 := by rw [← hh, Bd.state]; rfl
  have N0 := Fr.nil n0
  refine OGo.by (P := fun U' o => ∃ v L, o = .returned v ∧ Q_rm_addH0 Z a0 a1 w ke mc h0 n0 v U'.heap L ∧ FrameEnd s o U' L ({ frames := 3, cells := 1, slots := 10, locals := 41 } : Room).cells ({ frames := 3, cells := 1, slots := 10, locals := 41 } : Room).slots) (fun T_ k_ => castTop (ef_rm_addH0 m a0 a1 w ke mc) k_) ?_
  show OGo p e below _ (s₁.setTop (mkF m 0 #[.val (.ref a0), .val (.ref a1), .val (.ref w), .val (.int (0 : Int32))] []))
  refine OGo.by (fun _ k => XS.iloadN X0.here hx rfl (hb hby d18_0) rfl k) ?_
  show OGo p e below _ (s₁.setTop (mkF m 1 #[.val (.ref a0), .val (.ref a1), .val (.ref w), .val (.int (0 : Int32))] [(.int (0 : Int32))]))
  refine OGo.by (fun _ k => XS.aloadN X0.here hx rfl (hb hby d18_1) rfl rfl k) ?_
  show OGo p e below _ (s₁.setTop (mkF m 2 #[.val (.ref a0), .val (.ref a1), .val (.ref w), .val (.int (0 : Int32))] [(.ref w), (.int (0 : Int32))]))
  obtain ⟨cl1, Ar1, q1, S1, M1, -, -⟩ := id A_w
  refine OGo.by (X0.arraylength hx (by rw [e0]; exact Ar1.1) (State.isArrayOf_alike hZ.alike Ar1.2.1) (g := (mkF m 2 #[.val (.ref a0), .val (.ref a1), .val (.ref w), .val (.int (0 : Int32))] [(.ref w), (.int (0 : Int32))])) rfl rfl (hb hby d18_2)) ?_
  rw [len_of S1 M1]
  show OGo p e below _ (s₁.setTop (mkF m 3 #[.val (.ref a0), .val (.ref a1), .val (.ref w), .val (.int (0 : Int32))] [(.int (0 : Int32)), (.int (0 : Int32))]))
  refine OGo.by (fun _ k => XS.icmpNo X0.here hx rfl (hb hby d18_3) rfl (teq (by decide : (0 : Int32) = (0 : Int32))).2 k) ?_
  show OGo p e below _ (s₁.setTop (mkF m 6 #[.val (.ref a0), .val (.ref a1), .val (.ref w), .val (.int (0 : Int32))] []))
  refine OGo.by (fun _ k => XS.aloadN X0.here hx rfl (hb hby d18_6) rfl rfl k) ?_
  show OGo p e below _ (s₁.setTop (mkF m 7 #[.val (.ref a0), .val (.ref a1), .val (.ref w), .val (.int (0 : Int32))] [(.ref a0)]))
  obtain ⟨cq2, q2, q2'⟩ := f_0.cell
  obtain ⟨_, _, ⟨T2, L2, k2, n2⟩, -, X2, ⟨Lc2, hQ2, l2, y2, z2⟩, st2⟩ := X0.privateBack hx (y := (⟨"java/util/ArrayList", "grow", "()[Ljava/lang/Object;"⟩ : MethodName)) hown (mvT hZ (hw _ (List.mem_of_getElem? (i := 152) rfl))) (mvT hZ (hw _ (List.mem_of_getElem? (i := 153) rfl))) (mvT hZ (hw _ (List.mem_of_getElem? (i := 155) rfl))) (Cond.privateMethod_at (mvP hZ (hw _ (List.mem_of_getElem? (i := 154) rfl)) (args := #[]))) (mvT hZ (hw _ (List.mem_of_getElem? (i := 156) rfl))) (by decide) (backOf (W := 0) (rm_grow0 l Z av0 hw [] a0 w ke mc h0 n0 Z0 f_0 f_1 f_2 f_3 A_w O_0 S_d g_a0) hZ (hw _ (List.mem_of_getElem? (i := 156) rfl)) (hw _ (List.mem_of_getElem? (i := 2) rfl)) (by decide) (by decide)) (g := (mkF m 7 #[.val (.ref a0), .val (.ref a1), .val (.ref w), .val (.int (0 : Int32))] [(.ref a0)])) rfl (by rw [hml]; rfl) (Steps.refl _) (a := a0) (by rw [e0]; exact q2) q2' (argsL := []) (rest := []) (lenOf own_pd3 rfl) rfl (by show 2 * 0 + _ ≤ _; exact Nat.le_of_eq rfl) (hb hby d18_7) (fun _ _ => ⟨rfl, e0, (by decide : 0 + 1 ≤ _), (by decide : 0 + 10 ≤ _)⟩)
  dsimp only [Pt.U, Pt.locs, Pt.cells, Pt.slots] at X2 l2 y2 z2 st2 hQ2
  subst l2 y2 z2
  obtain ⟨b_2, kb_2, rfl, N2q, Kc2, G2_0, G2_1, G2_2, G2_3, G2_4, G2_5, G2_6, G2_7, G2_8⟩ := hQ2
  have N2 := Fr.app N0 N2q
  have ne_a0_b_2 : a0 ≠ b_2 := Nat.ne_of_lt (Nat.lt_of_lt_of_le f_0.lt G2_0)
  have ne_w_b_2 : w ≠ b_2 := Nat.ne_of_lt (Nat.lt_of_lt_of_le A_w.lt G2_0)
  have ne_a1_b_2 : a1 ≠ b_2 := Nat.ne_of_lt (Nat.lt_of_lt_of_le E_1.lt G2_0)
  have g_b_2 : n0 ≤ b_2 := Nat.le_trans Z0 G2_0
  have sz_b_2 : h0.size ≤ b_2 := Nat.le_trans (Nat.le_refl _) G2_0
  have K2 : Keep h0 T2.heap [a0] := ((Keep.refl h0 [a0])).trans Kc2 (allS (P := fun x => x ∈ ([a0] : List Addr) ∨ h0.size ≤ x) (Or.inl (List.mem_of_getElem? (i := 0) rfl)) (all0 (P := fun x => x ∈ ([a0] : List Addr) ∨ h0.size ≤ x)))
  refine OGo.of st2 ?_
  show OGo p e below _ (T2.setTop (mkF m 10 #[.val (.ref a0), .val (.ref a1), .val (.ref w), .val (.int (0 : Int32))] [(.ref b_2)]))
  refine OGo.by (fun _ k => XS.astoreN X2.here hx rfl (hb hby d18_10) rfl rfl (l' := #[.val (.ref a0), .val (.ref a1), .val (.ref b_2), .val (.int (0 : Int32))]) rfl k) ?_
  show OGo p e below _ (T2.setTop (mkF m 11 #[.val (.ref a0), .val (.ref a1), .val (.ref b_2), .val (.int (0 : Int32))] []))
  refine OGo.by (fun _ k => XS.aloadN X2.here hx rfl (hb hby d18_11) rfl rfl k) ?_
  show OGo p e below _ (T2.setTop (mkF m 12 #[.val (.ref a0), .val (.ref a1), .val (.ref b_2), .val (.int (0 : Int32))] [(.ref b_2)]))
  refine OGo.by (fun _ k => XS.iloadN X2.here hx rfl (hb hby d18_12) rfl k) ?_
  show OGo p e below _ (T2.setTop (mkF m 13 #[.val (.ref a0), .val (.ref a1), .val (.ref b_2), .val (.int (0 : Int32))] [(.int (0 : Int32)), (.ref b_2)]))
  refine OGo.by (fun _ k => XS.aloadN X2.here hx rfl (hb hby d18_13) rfl rfl k) ?_
  show OGo p e below _ (T2.setTop (mkF m 14 #[.val (.ref a0), .val (.ref a1), .val (.ref b_2), .val (.int (0 : Int32))] [(.ref a1), (.int (0 : Int32)), (.ref b_2)]))
  obtain ⟨cl3, Ar3, q3, S3, M3, Hs3, G3⟩ := id G2_6
  have f4 : Exa Z T2.heap a1 "com/example/kept_inbox/keptinbox/UnreadConversation" := (E_1.keep Kc2)
  obtain ⟨T3, h3, X3, e3, W3, st3⟩ := stR X2 hx hZ rfl Ar3 (j := (0 : Int32)) (inb_of S3 ⟨(by decide), (by decide)⟩) rfl (Sto.ofV Ar3 q3 G2_8 (Ins.of_exa f4 (hw _ (List.mem_of_getElem? (i := 168) rfl)))) (g := (mkF m 14 #[.val (.ref a0), .val (.ref a1), .val (.ref b_2), .val (.int (0 : Int32))] [(.ref a1), (.int (0 : Int32)), (.ref b_2)])) rfl rfl (hb hby d18_14)
  refine OGo.by st3 ?_
  have N3 := Fr.snoc X3 N2 g_b_2
  have K3 : Keep h0 h3 [a0] := (K2).wr W3 (Or.inr sz_b_2)
  have V3 : Arv Z h3 b_2 kb_2 (.object "java/lang/Object") (10 : Int32) [(.ref a1), .null, .null, .null, .null, .null, .null, .null, .null, .null] .null := Arv.set Ar3 q3 S3 M3 Hs3 G3 rfl W3 0 rfl (Nat.le_of_ble_eq_true rfl)
  show OGo p e below _ (T3.setTop (mkF m 15 #[.val (.ref a0), .val (.ref a1), .val (.ref b_2), .val (.int (0 : Int32))] []))
  refine OGo.by (fun _ k => XS.aloadN X3.here hx rfl (hb hby d18_15) rfl rfl k) ?_
  show OGo p e below _ (T3.setTop (mkF m 16 #[.val (.ref a0), .val (.ref a1), .val (.ref b_2), .val (.int (0 : Int32))] [(.ref a0)]))
  refine OGo.by (fun _ k => XS.iloadN X3.here hx rfl (hb hby d18_16) rfl k) ?_
  show OGo p e below _ (T3.setTop (mkF m 17 #[.val (.ref a0), .val (.ref a1), .val (.ref b_2), .val (.int (0 : Int32))] [(.int (0 : Int32)), (.ref a0)]))
  refine OGo.by (fun _ k => XS.iconst X3.here hx rfl (hb hby d18_17) k) ?_
  show OGo p e below _ (T3.setTop (mkF m 18 #[.val (.ref a0), .val (.ref a1), .val (.ref b_2), .val (.int (0 : Int32))] [(.int (1 : Int32)), (.int (0 : Int32)), (.ref a0)]))
  refine OGo.by (fun _ k => XS.iadd X3.here hx rfl (hb hby d18_18) rfl k) ?_
  show OGo p e below _ (T3.setTop (mkF m 19 #[.val (.ref a0), .val (.ref a1), .val (.ref b_2), .val (.int (0 : Int32))] [(.int (1 : Int32)), (.ref a0)]))
  have f5 : Exa Z h3 a0 "java/util/ArrayList" := (G2_2.wr W3)
  have f6 : Fld Z h3 a0 "java/util/ArrayList" "size" "I" (.int (0 : Int32)) := (G2_4.other W3 (Or.inl ne_a0_b_2))
  obtain ⟨T7, h7, X7, e7, W7, st7⟩ := putF X3 hx hZ hown (host := "") (Or.inl (hw _ (List.mem_of_getElem? (i := 61) rfl))) Via.refl e3 f6 f5 (Or.inl (hw _ (List.mem_of_getElem? (i := 62) rfl))) (hw _ (List.mem_of_getElem? (i := 1) rfl)) (ty := .int) (by decide) rfl rfl (g := (mkF m 19 #[.val (.ref a0), .val (.ref a1), .val (.ref b_2), .val (.int (0 : Int32))] [(.int (1 : Int32)), (.ref a0)])) rfl rfl (hb hby d18_19)
  refine OGo.by st7 ?_
  have Fw7 := f6.same W7
  have N7 := Fr.snoc X7 N3 g_a0
  have K7 : Keep h0 h7 [a0] := (K3).wr W7 (Or.inl (List.mem_of_getElem? (i := 0) rfl))
  show OGo p e below _ (T7.setTop (mkF m 22 #[.val (.ref a0), .val (.ref a1), .val (.ref b_2), .val (.int (0 : Int32))] []))
  obtain ⟨fs, hr, hrun, hended, hW, hsame⟩ := X7.leave (v := none) (fun _ => rfl)
  refine OGo.ret (X7.returnOut hx Bd.returns (hb hby d18_22) hr) hrun hended ⟨_, _, rfl, ?_, ⟨_, rfl⟩, hW, hsame.mono (by decide) (by decide)⟩
  show Q_rm_addH0 Z a0 a1 w ke mc h0 n0 _ T7.heap _
  rw [e7]
  have f8 : Exa Z h7 a0 "java/util/ArrayList" := (f5.wr W7)
  have f9 : Fld Z h7 a0 "java/util/AbstractList" "modCount" "I" (.int mc) := ((G2_3.other W3 (Or.inl ne_a0_b_2)).other W7 (Or.inr (slot_ne (Or.inl (hw _ (List.mem_of_getElem? (i := 22) rfl))) (Or.inl (hw _ (List.mem_of_getElem? (i := 62) rfl))) (by decide) (t := .int) (t' := .int) (by decide) (by decide))))
  have f10 : Fld Z h7 a0 "java/util/ArrayList" "elementData" "[Ljava/lang/Object;" (.ref b_2) := ((G2_5.other W3 (Or.inl ne_a0_b_2)).other W7 (Or.inr (slot_ne (Or.inl (hw _ (List.mem_of_getElem? (i := 25) rfl))) (Or.inl (hw _ (List.mem_of_getElem? (i := 62) rfl))) (by decide) (t := (.array (.object "java/lang/Object"))) (t' := .int) (by decide) (by decide))))
  have f11 : Arv Z h7 b_2 kb_2 (.object "java/lang/Object") (10 : Int32) [(.ref a1), .null, .null, .null, .null, .null, .null, .null, .null, .null] .null := (V3.other W7 (Ne.symm ne_a0_b_2))
  have f12 : Exa Z h7 b_2 "[Ljava/lang/Object;" := ((G2_7.wr W3).wr W7)
  exact ⟨b_2, kb_2, rfl, N7, K7, sz_b_2, g_b_2, f8, f9, Fw7, f10, f11, f12, G2_8⟩
theorem d17_0 : decode jdk_38_method_25_code 0 = .ok (.aload_n 0, 1) := by decide +kernel
theorem d17_1 : decode jdk_38_method_25_code 1 = .ok (.dup, 1) := by decide +kernel
theorem d17_2 : decode jdk_38_method_25_code 2 = .ok (.getfield 63, 3) := by decide +kernel
theorem d17_5 : decode jdk_38_method_25_code 5 = .ok (.iconst 1, 1) := by decide +kernel
theorem d17_6 : decode jdk_38_method_25_code 6 = .ok (.iadd, 1) := by decide +kernel
theorem d17_7 : decode jdk_38_method_25_code 7 = .ok (.putfield 63, 3) := by decide +kernel
theorem d17_10 : decode jdk_38_method_25_code 10 = .ok (.aload_n 0, 1) := by decide +kernel
theorem d17_11 : decode jdk_38_method_25_code 11 = .ok (.aload_n 1, 1) := by decide +kernel
theorem d17_12 : decode jdk_38_method_25_code 12 = .ok (.aload_n 0, 1) := by decide +kernel
theorem d17_13 : decode jdk_38_method_25_code 13 = .ok (.getfield 9, 3) := by decide +kernel
theorem d17_16 : decode jdk_38_method_25_code 16 = .ok (.aload_n 0, 1) := by decide +kernel
theorem d17_17 : decode jdk_38_method_25_code 17 = .ok (.getfield 48, 3) := by decide +kernel
theorem d17_20 : decode jdk_38_method_25_code 20 = .ok (.invokevirtual 131, 3) := by decide +kernel
theorem own_pd4 : parseMethodDescriptor "(Ljava/lang/Object;[Ljava/lang/Object;I)V" = some ⟨[(.object "java/lang/Object"), (.array (.object "java/lang/Object")), .int], none⟩ := by decide +kernel
theorem d17_23 : decode jdk_38_method_25_code 23 = .ok (.iconst 1, 1) := by decide +kernel
theorem d17_24 : decode jdk_38_method_25_code 24 = .ok (.ireturn, 1) := by decide +kernel
theorem own_pn17 : plainName "java/util/ArrayList" = true := by first | (simp [plainName, overriddenIn]; done) | decide +kernel
theorem ef_rm_add0 (m : MethodId) (a0 : Addr) (a1 : Addr) : entryFrame m #[(.ref a0), (.ref a1)] 2 = mkF m 0 #[.val (.ref a0), .val (.ref a1)] [] := by first | (simp [entryFrame, mkF, argsToLocals, Value.category]; done) | rfl
def Q_rm_add0 (Z : State) (a0 : Addr) (a1 : Addr) (w : Addr) (ke : ClassId) (mc : Int32) (h0 : Heap) (n0 : Nat) (v : Option Value) (h : Heap) (L : List Loc) : Prop := ∃ b : Addr, ∃ kb : ClassId, v = some (.int (1 : Int32)) ∧ Fr n0 L ∧ Keep h0 h [a0] ∧ (h0.size ≤ b) ∧ (n0 ≤ b) ∧ (Exa Z h a0 "java/util/ArrayList") ∧ (Fld Z h a0 "java/util/AbstractList" "modCount" "I" (.int (mc + (1 : Int32)))) ∧ (Fld Z h a0 "java/util/ArrayList" "size" "I" (.int (1 : Int32))) ∧ (Fld Z h a0 "java/util/ArrayList" "elementData" "[Ljava/lang/Object;" (.ref b)) ∧ (Arv Z h b kb (.object "java/lang/Object") (10 : Int32) [(.ref a1), .null, .null, .null, .null, .null, .null, .null, .null, .null] .null) ∧ (Exa Z h b "[Ljava/lang/Object;") ∧ (Ovr Z kb "java/lang/Object")
set_option maxRecDepth 65536 in
set_option maxHeartbeats 40000000 in
theorem rm_add0 (l : Launch) (Z : State) (av0 : Array Value) (hw : ∀ d ∈ tables_1, d.before av0 Z = true) (ws : List Jvm.Cond) (a0 : Addr) (a1 : Addr) (w : Addr) (ke : ClassId) (mc : Int32) (h0 : Heap) (n0 : Nat) (Z0 : n0 ≤ h0.size) (f_0 : Exa Z h0 a0 "java/util/ArrayList") (f_1 : Fld Z h0 a0 "java/util/AbstractList" "modCount" "I" (.int mc)) (f_2 : Fld Z h0 a0 "java/util/ArrayList" "size" "I" (.int (0 : Int32))) (f_3 : Fld Z h0 a0 "java/util/ArrayList" "elementData" "[Ljava/lang/Object;" (.ref w)) (A_w : Arv Z h0 w ke (.object "java/lang/Object") (0 : Int32) [] .null) (O_0 : Old Z n0 h0) (S_d : Sta Z Z.heap "java/util/ArrayList" "DEFAULTCAPACITY_EMPTY_ELEMENTDATA" "[Ljava/lang/Object;" (.ref w)) (g_a0 : n0 ≤ a0) (E_1 : Exa Z h0 a1 "com/example/kept_inbox/keptinbox/UnreadConversation") (ne_wa : w ≠ a0) :
    MetFree l (⟨"java/util/ArrayList", "add", "(Ljava/lang/Object;)Z"⟩ : MethodName) (head1 (Jvm.Cond.code (⟨"java/util/ArrayList", "add", "(Ljava/lang/Object;)Z"⟩ : MethodName) jdk_38_method_25_code 2 (some .boolean) :: ws) ({ frames := 4, cells := 1, slots := 10, locals := 56 } : Room)) (fun a U => a = #[(.ref a0), (.ref a1)] ∧ Z.Warmed39 U.vm ∧ U.heap = h0) (fun _ _ _ _ _ => True) (fun _ U o U' => ∃ v L, o = .returned v ∧ Q_rm_add0 Z a0 a1 w ke mc h0 n0 v U'.heap L ∧ FrameEnd U o U' L ({ frames := 4, cells := 1, slots := 10, locals := 56 } : Room).cells ({ frames := 4, cells := 1, slots := 10, locals := 56 } : Room).slots) := by
  refine MetFree.of_bodySF (plainFor_of_name own_pn17) hisR ?_
  intro p e s m args below meth c s₁ Bd hml0 hP hK
  obtain ⟨rfl, hZ, hh⟩ := hP
  have hx := Bd.exec
  have hby := Bd.bytes
  have hml : c.maxLocals = 2 := hml0
  have hown : s.vm.findClass "java/util/ArrayList" = some m.cls := findClass_of_methodNamed Bd.named
  have hnm := (name_of_methodNamed Bd.named Bd.method).1
  have X0 : Stand p l e ({ frames := 4, cells := 1, slots := 10, locals := 56 } : Room) s m #[(.ref a0), (.ref a1)] below meth c s₁ [] 0 0 := Stand.of_body Bd
  have e0 : s₁.heap = h0 := by rw [← hh, Bd.state]; rfl
  have N0 := Fr.nil n0
  refine OGo.by (P := fun U' o => ∃ v L, o = .returned v ∧ Q_rm_add0 Z a0 a1 w ke mc h0 n0 v U'.heap L ∧ FrameEnd s o U' L ({ frames := 4, cells := 1, slots := 10, locals := 56 } : Room).cells ({ frames := 4, cells := 1, slots := 10, locals := 56 } : Room).slots) (fun T_ k_ => castTop (ef_rm_add0 m a0 a1) k_) ?_
  show OGo p e below _ (s₁.setTop (mkF m 0 #[.val (.ref a0), .val (.ref a1)] []))
  refine OGo.by (fun _ k => XS.aloadN X0.here hx rfl (hb hby d17_0) rfl rfl k) ?_
  show OGo p e below _ (s₁.setTop (mkF m 1 #[.val (.ref a0), .val (.ref a1)] [(.ref a0)]))
  refine OGo.by (fun _ k => XS.dup X0.here hx rfl (hb hby d17_1) rfl rfl k) ?_
  show OGo p e below _ (s₁.setTop (mkF m 2 #[.val (.ref a0), .val (.ref a1)] [(.ref a0), (.ref a0)]))
  obtain ⟨T1, X1, e1, st1⟩ := getF X0 hx hZ hown (host := "") (Or.inl (hw _ (List.mem_of_getElem? (i := 145) rfl))) (Via.of (hw _ (List.mem_of_getElem? (i := 146) rfl))) e0 f_1 (g := (mkF m 2 #[.val (.ref a0), .val (.ref a1)] [(.ref a0), (.ref a0)])) rfl rfl (hb hby d17_2)
  refine OGo.by st1 ?_
  show OGo p e below _ (T1.setTop (mkF m 5 #[.val (.ref a0), .val (.ref a1)] [(.int mc), (.ref a0)]))
  refine OGo.by (fun _ k => XS.iconst X1.here hx rfl (hb hby d17_5) k) ?_
  show OGo p e below _ (T1.setTop (mkF m 6 #[.val (.ref a0), .val (.ref a1)] [(.int (1 : Int32)), (.int mc), (.ref a0)]))
  refine OGo.by (fun _ k => XS.iadd X1.here hx rfl (hb hby d17_6) rfl k) ?_
  show OGo p e below _ (T1.setTop (mkF m 7 #[.val (.ref a0), .val (.ref a1)] [(.int (mc + (1 : Int32))), (.ref a0)]))
  obtain ⟨T2, h2, X2, e2, W2, st2⟩ := putF X1 hx hZ hown (host := "") (Or.inl (hw _ (List.mem_of_getElem? (i := 145) rfl))) (Via.of (hw _ (List.mem_of_getElem? (i := 146) rfl))) e1 f_1 f_0 (Or.inl (hw _ (List.mem_of_getElem? (i := 22) rfl))) (hw _ (List.mem_of_getElem? (i := 1) rfl)) (ty := .int) (by decide) rfl rfl (g := (mkF m 7 #[.val (.ref a0), .val (.ref a1)] [(.int (mc + (1 : Int32))), (.ref a0)])) rfl rfl (hb hby d17_7)
  refine OGo.by st2 ?_
  have Fw2 := f_1.same W2
  have N2 := Fr.snoc X2 N0 g_a0
  have K2 : Keep h0 h2 [a0] := ((Keep.refl h0 [a0])).wr W2 (Or.inl (List.mem_of_getElem? (i := 0) rfl))
  show OGo p e below _ (T2.setTop (mkF m 10 #[.val (.ref a0), .val (.ref a1)] []))
  refine OGo.by (fun _ k => XS.aloadN X2.here hx rfl (hb hby d17_10) rfl rfl k) ?_
  show OGo p e below _ (T2.setTop (mkF m 11 #[.val (.ref a0), .val (.ref a1)] [(.ref a0)]))
  refine OGo.by (fun _ k => XS.aloadN X2.here hx rfl (hb hby d17_11) rfl rfl k) ?_
  show OGo p e below _ (T2.setTop (mkF m 12 #[.val (.ref a0), .val (.ref a1)] [(.ref a1), (.ref a0)]))
  refine OGo.by (fun _ k => XS.aloadN X2.here hx rfl (hb hby d17_12) rfl rfl k) ?_
  show OGo p e below _ (T2.setTop (mkF m 13 #[.val (.ref a0), .val (.ref a1)] [(.ref a0), (.ref a1), (.ref a0)]))
  have f3 : Fld Z h2 a0 "java/util/ArrayList" "elementData" "[Ljava/lang/Object;" (.ref w) := (f_3.other W2 (Or.inr (slot_ne (Or.inl (hw _ (List.mem_of_getElem? (i := 25) rfl))) (Or.inl (hw _ (List.mem_of_getElem? (i := 22) rfl))) (by decide) (t := (.array (.object "java/lang/Object"))) (t' := .int) (by decide) (by decide))))
  obtain ⟨T4, X4, e4, st4⟩ := getF X2 hx hZ hown (host := "") (Or.inl (hw _ (List.mem_of_getElem? (i := 24) rfl))) Via.refl e2 f3 (g := (mkF m 13 #[.val (.ref a0), .val (.ref a1)] [(.ref a0), (.ref a1), (.ref a0)])) rfl rfl (hb hby d17_13)
  refine OGo.by st4 ?_
  show OGo p e below _ (T4.setTop (mkF m 16 #[.val (.ref a0), .val (.ref a1)] [(.ref w), (.ref a1), (.ref a0)]))
  refine OGo.by (fun _ k => XS.aloadN X4.here hx rfl (hb hby d17_16) rfl rfl k) ?_
  show OGo p e below _ (T4.setTop (mkF m 17 #[.val (.ref a0), .val (.ref a1)] [(.ref a0), (.ref w), (.ref a1), (.ref a0)]))
  have f5 : Fld Z h2 a0 "java/util/ArrayList" "size" "I" (.int (0 : Int32)) := (f_2.other W2 (Or.inr (slot_ne (Or.inl (hw _ (List.mem_of_getElem? (i := 62) rfl))) (Or.inl (hw _ (List.mem_of_getElem? (i := 22) rfl))) (by decide) (t := .int) (t' := .int) (by decide) (by decide))))
  obtain ⟨T6, X6, e6, st6⟩ := getF X4 hx hZ hown (host := "") (Or.inl (hw _ (List.mem_of_getElem? (i := 61) rfl))) Via.refl e4 f5 (g := (mkF m 17 #[.val (.ref a0), .val (.ref a1)] [(.ref a0), (.ref w), (.ref a1), (.ref a0)])) rfl rfl (hb hby d17_17)
  refine OGo.by st6 ?_
  show OGo p e below _ (T6.setTop (mkF m 20 #[.val (.ref a0), .val (.ref a1)] [(.int (0 : Int32)), (.ref w), (.ref a1), (.ref a0)]))
  have f8 : Exa Z h2 a0 "java/util/ArrayList" := (f_0.wr W2)
  have f9 : Arv Z h2 w ke (.object "java/lang/Object") (0 : Int32) [] .null := (A_w.other W2 ne_wa)
  have f10 : Old Z n0 h2 := (O_0.wr W2 g_a0)
  have f11 : Exa Z h2 a1 "com/example/kept_inbox/keptinbox/UnreadConversation" := (E_1.wr W2)
  obtain ⟨cq7, q7, q7'⟩ := f8.cell
  obtain ⟨_, _, ⟨T7, L7, k7, n7⟩, -, X7, ⟨Lc7, hQ7, l7, y7, z7⟩, st7⟩ := X6.privateBack hx (y := (⟨"java/util/ArrayList", "add", "(Ljava/lang/Object;[Ljava/lang/Object;I)V"⟩ : MethodName)) hown (mvT hZ (hw _ (List.mem_of_getElem? (i := 147) rfl))) (mvT hZ (hw _ (List.mem_of_getElem? (i := 148) rfl))) (mvT hZ (hw _ (List.mem_of_getElem? (i := 150) rfl))) (Cond.privateMethod_at (mvP hZ (hw _ (List.mem_of_getElem? (i := 149) rfl)) (args := #[]))) (mvT hZ (hw _ (List.mem_of_getElem? (i := 151) rfl))) (by decide) (backOf (W := 0) (rm_addH0 l Z av0 hw [] a0 a1 w ke (mc + (1 : Int32)) h2 n0 (Nat.le_trans Z0 K2.1) f8 Fw2 f5 f3 f9 f10 S_d g_a0 f11 ne_wa) hZ (hw _ (List.mem_of_getElem? (i := 151) rfl)) (hw _ (List.mem_of_getElem? (i := 2) rfl)) (by decide) (by decide)) (g := (mkF m 20 #[.val (.ref a0), .val (.ref a1)] [(.int (0 : Int32)), (.ref w), (.ref a1), (.ref a0)])) rfl (by rw [hml]; rfl) (Steps.refl _) (a := a0) (by rw [e6]; exact q7) q7' (argsL := [(.ref a1), (.ref w), (.int (0 : Int32))]) (rest := []) (lenOf own_pd4 rfl) rfl (by show 2 * 0 + _ ≤ _; exact Nat.le_of_eq rfl) (hb hby d17_20) (fun _ _ => ⟨rfl, e6, (by decide : 0 + 1 ≤ _), (by decide : 0 + 10 ≤ _)⟩)
  dsimp only [Pt.U, Pt.locs, Pt.cells, Pt.slots] at X7 l7 y7 z7 st7 hQ7
  subst l7 y7 z7
  obtain ⟨b_7, kb_7, rfl, N7q, Kc7, G7_0, G7_1, G7_2, G7_3, G7_4, G7_5, G7_6, G7_7, G7_8⟩ := hQ7
  have N7 := Fr.app N2 N7q
  have ne_a0_b_7 : a0 ≠ b_7 := Nat.ne_of_lt (Nat.lt_of_lt_of_le f8.lt G7_0)
  have ne_w_b_7 : w ≠ b_7 := Nat.ne_of_lt (Nat.lt_of_lt_of_le f9.lt G7_0)
  have ne_a1_b_7 : a1 ≠ b_7 := Nat.ne_of_lt (Nat.lt_of_lt_of_le f11.lt G7_0)
  have g_b_7 : n0 ≤ b_7 := Nat.le_trans (Nat.le_trans Z0 K2.1) G7_0
  have sz_b_7 : h0.size ≤ b_7 := Nat.le_trans K2.1 G7_0
  have K7 : Keep h0 T7.heap [a0] := (K2).trans Kc7 (allS (P := fun x => x ∈ ([a0] : List Addr) ∨ h0.size ≤ x) (Or.inl (List.mem_of_getElem? (i := 0) rfl)) (all0 (P := fun x => x ∈ ([a0] : List Addr) ∨ h0.size ≤ x)))
  refine OGo.of st7 ?_
  show OGo p e below _ (T7.setTop (mkF m 23 #[.val (.ref a0), .val (.ref a1)] []))
  refine OGo.by (fun _ k => XS.iconst X7.here hx rfl (hb hby d17_23) k) ?_
  show OGo p e below _ (T7.setTop (mkF m 24 #[.val (.ref a0), .val (.ref a1)] [(.int (1 : Int32))]))
  obtain ⟨fs, hr, hrun, hended, hW, hsame⟩ := X7.leave (v := some (.int (1 : Int32))) (fun h => by rw [Bd.returns] at h; cases h)
  refine OGo.ret (retN X7 hx (t := .boolean) Bd.returns (by simp) (hb hby d17_24) hr) hrun hended ⟨_, _, rfl, ?_, ⟨_, rfl⟩, hW, hsame.mono (by decide) (by decide)⟩
  show Q_rm_add0 Z a0 a1 w ke mc h0 n0 _ T7.heap _
  exact ⟨b_7, kb_7, rfl, N7, K7, sz_b_7, g_b_7, G7_2, G7_3, G7_4, G7_5, G7_6, G7_7, G7_8⟩
theorem ef_rm_addH1 (m : MethodId) (a0 : Addr) (a1 : Addr) (d : Addr) (kd : ClassId) (mc : Int32) (c0 : Addr) : entryFrame m #[(.ref a0), (.ref a1), (.ref d), (.int (1 : Int32))] 4 = mkF m 0 #[.val (.ref a0), .val (.ref a1), .val (.ref d), .val (.int (1 : Int32))] [] := by first | (simp [entryFrame, mkF, argsToLocals, Value.category]; done) | rfl
def Q_rm_addH1 (Z : State) (a0 : Addr) (a1 : Addr) (d : Addr) (kd : ClassId) (mc : Int32) (c0 : Addr) (h0 : Heap) (n0 : Nat) (v : Option Value) (h : Heap) (L : List Loc) : Prop := v = none ∧ Fr n0 L ∧ Keep h0 h [a0, d] ∧ (Exa Z h a0 "java/util/ArrayList") ∧ (Fld Z h a0 "java/util/AbstractList" "modCount" "I" (.int mc)) ∧ (Fld Z h a0 "java/util/ArrayList" "size" "I" (.int (2 : Int32))) ∧ (Fld Z h a0 "java/util/ArrayList" "elementData" "[Ljava/lang/Object;" (.ref d)) ∧ (Arv Z h d kd (.object "java/lang/Object") (10 : Int32) [(.ref c0), (.ref a1), .null, .null, .null, .null, .null, .null, .null, .null] .null) ∧ (Exa Z h d "[Ljava/lang/Object;")
set_option maxRecDepth 65536 in
set_option maxHeartbeats 40000000 in
theorem rm_addH1 (l : Launch) (Z : State) (av0 : Array Value) (hw : ∀ d ∈ tables_1, d.before av0 Z = true) (ws : List Jvm.Cond) (a0 : Addr) (a1 : Addr) (d : Addr) (kd : ClassId) (mc : Int32) (c0 : Addr) (h0 : Heap) (n0 : Nat) (Z0 : n0 ≤ h0.size) (f_0 : Exa Z h0 a0 "java/util/ArrayList") (f_1 : Fld Z h0 a0 "java/util/AbstractList" "modCount" "I" (.int mc)) (f_2 : Fld Z h0 a0 "java/util/ArrayList" "size" "I" (.int (1 : Int32))) (f_3 : Fld Z h0 a0 "java/util/ArrayList" "elementData" "[Ljava/lang/Object;" (.ref d)) (A_d : Arv Z h0 d kd (.object "java/lang/Object") (10 : Int32) [(.ref c0), .null, .null, .null, .null, .null, .null, .null, .null, .null] .null) (Ov : Ovr Z kd "java/lang/Object") (ne_ad : a0 ≠ d) (g_a0 : n0 ≤ a0) (g_d : n0 ≤ d) (E_1 : Exa Z h0 a1 "com/example/kept_inbox/keptinbox/UnreadConversation") (E_d : Exa Z h0 d "[Ljava/lang/Object;") :
    MetFree l (⟨"java/util/ArrayList", "add", "(Ljava/lang/Object;[Ljava/lang/Object;I)V"⟩ : MethodName) (head1 (Jvm.Cond.code (⟨"java/util/ArrayList", "add", "(Ljava/lang/Object;[Ljava/lang/Object;I)V"⟩ : MethodName) jdk_38_method_24_code 4 none :: ws) ({ frames := 0, cells := 0, slots := 0, locals := 0 } : Room)) (fun a U => a = #[(.ref a0), (.ref a1), (.ref d), (.int (1 : Int32))] ∧ Z.Warmed39 U.vm ∧ U.heap = h0) (fun _ _ _ _ _ => True) (fun _ U o U' => ∃ v L, o = .returned v ∧ Q_rm_addH1 Z a0 a1 d kd mc c0 h0 n0 v U'.heap L ∧ FrameEnd U o U' L ({ frames := 0, cells := 0, slots := 0, locals := 0 } : Room).cells ({ frames := 0, cells := 0, slots := 0, locals := 0 } : Room).slots) := by
  refine MetFree.of_bodySF (plainFor_of_name own_pn18) hisR ?_
  intro p e s m args below meth c s₁ Bd hml0 hP hK
  obtain ⟨rfl, hZ, hh⟩ := hP
  have hx := Bd.exec
  have hby := Bd.bytes
  have hml : c.maxLocals = 4 := hml0
  have hown : s.vm.findClass "java/util/ArrayList" = some m.cls := findClass_of_methodNamed Bd.named
  have hnm := (name_of_methodNamed Bd.named Bd.method).1
  have X0 : Stand p l e ({ frames := 0, cells := 0, slots := 0, locals := 0 } : Room) s m #[(.ref a0), (.ref a1), (.ref d), (.int (1 : Int32))] below meth c s₁ [] 0 0 := Stand.of_body Bd
  have e0 : s₁.heap = h0 := by rw [← hh, Bd.state]; rfl
  have N0 := Fr.nil n0
  refine OGo.by (P := fun U' o => ∃ v L, o = .returned v ∧ Q_rm_addH1 Z a0 a1 d kd mc c0 h0 n0 v U'.heap L ∧ FrameEnd s o U' L ({ frames := 0, cells := 0, slots := 0, locals := 0 } : Room).cells ({ frames := 0, cells := 0, slots := 0, locals := 0 } : Room).slots) (fun T_ k_ => castTop (ef_rm_addH1 m a0 a1 d kd mc c0) k_) ?_
  show OGo p e below _ (s₁.setTop (mkF m 0 #[.val (.ref a0), .val (.ref a1), .val (.ref d), .val (.int (1 : Int32))] []))
  refine OGo.by (fun _ k => XS.iloadN X0.here hx rfl (hb hby d18_0) rfl k) ?_
  show OGo p e below _ (s₁.setTop (mkF m 1 #[.val (.ref a0), .val (.ref a1), .val (.ref d), .val (.int (1 : Int32))] [(.int (1 : Int32))]))
  refine OGo.by (fun _ k => XS.aloadN X0.here hx rfl (hb hby d18_1) rfl rfl k) ?_
  show OGo p e below _ (s₁.setTop (mkF m 2 #[.val (.ref a0), .val (.ref a1), .val (.ref d), .val (.int (1 : Int32))] [(.ref d), (.int (1 : Int32))]))
  obtain ⟨cl1, Ar1, q1, S1, M1, -, -⟩ := id A_d
  refine OGo.by (X0.arraylength hx (by rw [e0]; exact Ar1.1) (State.isArrayOf_alike hZ.alike Ar1.2.1) (g := (mkF m 2 #[.val (.ref a0), .val (.ref a1), .val (.ref d), .val (.int (1 : Int32))] [(.ref d), (.int (1 : Int32))])) rfl rfl (hb hby d18_2)) ?_
  rw [len_of S1 M1]
  show OGo p e below _ (s₁.setTop (mkF m 3 #[.val (.ref a0), .val (.ref a1), .val (.ref d), .val (.int (1 : Int32))] [(.int (10 : Int32)), (.int (1 : Int32))]))
  refine OGo.by (fun _ k => XS.icmpYes X0.here hx rfl (pc0 := 3) (pc' := 11) rfl (hb hby d18_3) rfl (feq (by decide : ¬ ((1 : Int32) = (10 : Int32)))).2 (by decide) (by decide) k) ?_
  show OGo p e below _ (s₁.setTop (mkF m 11 #[.val (.ref a0), .val (.ref a1), .val (.ref d), .val (.int (1 : Int32))] []))
  refine OGo.by (fun _ k => XS.aloadN X0.here hx rfl (hb hby d18_11) rfl rfl k) ?_
  show OGo p e below _ (s₁.setTop (mkF m 12 #[.val (.ref a0), .val (.ref a1), .val (.ref d), .val (.int (1 : Int32))] [(.ref d)]))
  refine OGo.by (fun _ k => XS.iloadN X0.here hx rfl (hb hby d18_12) rfl k) ?_
  show OGo p e below _ (s₁.setTop (mkF m 13 #[.val (.ref a0), .val (.ref a1), .val (.ref d), .val (.int (1 : Int32))] [(.int (1 : Int32)), (.ref d)]))
  refine OGo.by (fun _ k => XS.aloadN X0.here hx rfl (hb hby d18_13) rfl rfl k) ?_
  show OGo p e below _ (s₁.setTop (mkF m 14 #[.val (.ref a0), .val (.ref a1), .val (.ref d), .val (.int (1 : Int32))] [(.ref a1), (.int (1 : Int32)), (.ref d)]))
  obtain ⟨cl2, Ar2, q2, S2, M2, Hs2, G2⟩ := id A_d
  obtain ⟨T2, h2, X2, e2, W2, st2⟩ := stR X0 hx hZ e0 Ar2 (j := (1 : Int32)) (inb_of S2 ⟨(by decide), (by decide)⟩) rfl (Sto.ofV Ar2 q2 Ov (Ins.of_exa E_1 (hw _ (List.mem_of_getElem? (i := 168) rfl)))) (g := (mkF m 14 #[.val (.ref a0), .val (.ref a1), .val (.ref d), .val (.int (1 : Int32))] [(.ref a1), (.int (1 : Int32)), (.ref d)])) rfl rfl (hb hby d18_14)
  refine OGo.by st2 ?_
  have N2 := Fr.snoc X2 N0 g_d
  have K2 : Keep h0 h2 [a0, d] := ((Keep.refl h0 [a0, d])).wr W2 (Or.inl (List.mem_of_getElem? (i := 1) rfl))
  have V2 : Arv Z h2 d kd (.object "java/lang/Object") (10 : Int32) [(.ref c0), (.ref a1), .null, .null, .null, .null, .null, .null, .null, .null] .null := Arv.set Ar2 q2 S2 M2 Hs2 G2 rfl W2 1 rfl (Nat.le_of_ble_eq_true rfl)
  show OGo p e below _ (T2.setTop (mkF m 15 #[.val (.ref a0), .val (.ref a1), .val (.ref d), .val (.int (1 : Int32))] []))
  refine OGo.by (fun _ k => XS.aloadN X2.here hx rfl (hb hby d18_15) rfl rfl k) ?_
  show OGo p e below _ (T2.setTop (mkF m 16 #[.val (.ref a0), .val (.ref a1), .val (.ref d), .val (.int (1 : Int32))] [(.ref a0)]))
  refine OGo.by (fun _ k => XS.iloadN X2.here hx rfl (hb hby d18_16) rfl k) ?_
  show OGo p e below _ (T2.setTop (mkF m 17 #[.val (.ref a0), .val (.ref a1), .val (.ref d), .val (.int (1 : Int32))] [(.int (1 : Int32)), (.ref a0)]))
  refine OGo.by (fun _ k => XS.iconst X2.here hx rfl (hb hby d18_17) k) ?_
  show OGo p e below _ (T2.setTop (mkF m 18 #[.val (.ref a0), .val (.ref a1), .val (.ref d), .val (.int (1 : Int32))] [(.int (1 : Int32)), (.int (1 : Int32)), (.ref a0)]))
  refine OGo.by (fun _ k => XS.iadd X2.here hx rfl (hb hby d18_18) rfl k) ?_
  show OGo p e below _ (T2.setTop (mkF m 19 #[.val (.ref a0), .val (.ref a1), .val (.ref d), .val (.int (1 : Int32))] [(.int (2 : Int32)), (.ref a0)]))
  have f3 : Exa Z h2 a0 "java/util/ArrayList" := (f_0.wr W2)
  have f4 : Fld Z h2 a0 "java/util/ArrayList" "size" "I" (.int (1 : Int32)) := (f_2.other W2 (Or.inl ne_ad))
  obtain ⟨T5, h5, X5, e5, W5, st5⟩ := putF X2 hx hZ hown (host := "") (Or.inl (hw _ (List.mem_of_getElem? (i := 61) rfl))) Via.refl e2 f4 f3 (Or.inl (hw _ (List.mem_of_getElem? (i := 62) rfl))) (hw _ (List.mem_of_getElem? (i := 1) rfl)) (ty := .int) (by decide) rfl rfl (g := (mkF m 19 #[.val (.ref a0), .val (.ref a1), .val (.ref d), .val (.int (1 : Int32))] [(.int (2 : Int32)), (.ref a0)])) rfl rfl (hb hby d18_19)
  refine OGo.by st5 ?_
  have Fw5 := f4.same W5
  have N5 := Fr.snoc X5 N2 g_a0
  have K5 : Keep h0 h5 [a0, d] := (K2).wr W5 (Or.inl (List.mem_of_getElem? (i := 0) rfl))
  show OGo p e below _ (T5.setTop (mkF m 22 #[.val (.ref a0), .val (.ref a1), .val (.ref d), .val (.int (1 : Int32))] []))
  obtain ⟨fs, hr, hrun, hended, hW, hsame⟩ := X5.leave (v := none) (fun _ => rfl)
  refine OGo.ret (X5.returnOut hx Bd.returns (hb hby d18_22) hr) hrun hended ⟨_, _, rfl, ?_, ⟨_, rfl⟩, hW, hsame.mono (by decide) (by decide)⟩
  show Q_rm_addH1 Z a0 a1 d kd mc c0 h0 n0 _ T5.heap _
  rw [e5]
  have f6 : Exa Z h5 a0 "java/util/ArrayList" := (f3.wr W5)
  have f7 : Fld Z h5 a0 "java/util/AbstractList" "modCount" "I" (.int mc) := ((f_1.other W2 (Or.inl ne_ad)).other W5 (Or.inr (slot_ne (Or.inl (hw _ (List.mem_of_getElem? (i := 22) rfl))) (Or.inl (hw _ (List.mem_of_getElem? (i := 62) rfl))) (by decide) (t := .int) (t' := .int) (by decide) (by decide))))
  have f8 : Fld Z h5 a0 "java/util/ArrayList" "elementData" "[Ljava/lang/Object;" (.ref d) := ((f_3.other W2 (Or.inl ne_ad)).other W5 (Or.inr (slot_ne (Or.inl (hw _ (List.mem_of_getElem? (i := 25) rfl))) (Or.inl (hw _ (List.mem_of_getElem? (i := 62) rfl))) (by decide) (t := (.array (.object "java/lang/Object"))) (t' := .int) (by decide) (by decide))))
  have f9 : Arv Z h5 d kd (.object "java/lang/Object") (10 : Int32) [(.ref c0), (.ref a1), .null, .null, .null, .null, .null, .null, .null, .null] .null := (V2.other W5 (Ne.symm ne_ad))
  have f10 : Exa Z h5 d "[Ljava/lang/Object;" := ((E_d.wr W2).wr W5)
  exact ⟨rfl, N5, K5, f6, f7, Fw5, f8, f9, f10⟩
theorem ef_rm_add1 (m : MethodId) (a0 : Addr) (a1 : Addr) : entryFrame m #[(.ref a0), (.ref a1)] 2 = mkF m 0 #[.val (.ref a0), .val (.ref a1)] [] := by first | (simp [entryFrame, mkF, argsToLocals, Value.category]; done) | rfl
def Q_rm_add1 (Z : State) (a0 : Addr) (a1 : Addr) (d : Addr) (kd : ClassId) (mc : Int32) (c0 : Addr) (h0 : Heap) (n0 : Nat) (v : Option Value) (h : Heap) (L : List Loc) : Prop := v = some (.int (1 : Int32)) ∧ Fr n0 L ∧ Keep h0 h [a0, d] ∧ (Exa Z h a0 "java/util/ArrayList") ∧ (Fld Z h a0 "java/util/AbstractList" "modCount" "I" (.int (mc + (1 : Int32)))) ∧ (Fld Z h a0 "java/util/ArrayList" "size" "I" (.int (2 : Int32))) ∧ (Fld Z h a0 "java/util/ArrayList" "elementData" "[Ljava/lang/Object;" (.ref d)) ∧ (Arv Z h d kd (.object "java/lang/Object") (10 : Int32) [(.ref c0), (.ref a1), .null, .null, .null, .null, .null, .null, .null, .null] .null) ∧ (Exa Z h d "[Ljava/lang/Object;")
set_option maxRecDepth 65536 in
set_option maxHeartbeats 40000000 in
theorem rm_add1 (l : Launch) (Z : State) (av0 : Array Value) (hw : ∀ d ∈ tables_1, d.before av0 Z = true) (ws : List Jvm.Cond) (a0 : Addr) (a1 : Addr) (d : Addr) (kd : ClassId) (mc : Int32) (c0 : Addr) (h0 : Heap) (n0 : Nat) (Z0 : n0 ≤ h0.size) (f_0 : Exa Z h0 a0 "java/util/ArrayList") (f_1 : Fld Z h0 a0 "java/util/AbstractList" "modCount" "I" (.int mc)) (f_2 : Fld Z h0 a0 "java/util/ArrayList" "size" "I" (.int (1 : Int32))) (f_3 : Fld Z h0 a0 "java/util/ArrayList" "elementData" "[Ljava/lang/Object;" (.ref d)) (A_d : Arv Z h0 d kd (.object "java/lang/Object") (10 : Int32) [(.ref c0), .null, .null, .null, .null, .null, .null, .null, .null, .null] .null) (Ov : Ovr Z kd "java/lang/Object") (ne_ad : a0 ≠ d) (g_a0 : n0 ≤ a0) (g_d : n0 ≤ d) (E_1 : Exa Z h0 a1 "com/example/kept_inbox/keptinbox/UnreadConversation") (E_d : Exa Z h0 d "[Ljava/lang/Object;") :
    MetFree l (⟨"java/util/ArrayList", "add", "(Ljava/lang/Object;)Z"⟩ : MethodName) (head1 (Jvm.Cond.code (⟨"java/util/ArrayList", "add", "(Ljava/lang/Object;)Z"⟩ : MethodName) jdk_38_method_25_code 2 (some .boolean) :: ws) ({ frames := 1, cells := 0, slots := 0, locals := 15 } : Room)) (fun a U => a = #[(.ref a0), (.ref a1)] ∧ Z.Warmed39 U.vm ∧ U.heap = h0) (fun _ _ _ _ _ => True) (fun _ U o U' => ∃ v L, o = .returned v ∧ Q_rm_add1 Z a0 a1 d kd mc c0 h0 n0 v U'.heap L ∧ FrameEnd U o U' L ({ frames := 1, cells := 0, slots := 0, locals := 15 } : Room).cells ({ frames := 1, cells := 0, slots := 0, locals := 15 } : Room).slots) := by
  refine MetFree.of_bodySF (plainFor_of_name own_pn17) hisR ?_
  intro p e s m args below meth c s₁ Bd hml0 hP hK
  obtain ⟨rfl, hZ, hh⟩ := hP
  have hx := Bd.exec
  have hby := Bd.bytes
  have hml : c.maxLocals = 2 := hml0
  have hown : s.vm.findClass "java/util/ArrayList" = some m.cls := findClass_of_methodNamed Bd.named
  have hnm := (name_of_methodNamed Bd.named Bd.method).1
  have X0 : Stand p l e ({ frames := 1, cells := 0, slots := 0, locals := 15 } : Room) s m #[(.ref a0), (.ref a1)] below meth c s₁ [] 0 0 := Stand.of_body Bd
  have e0 : s₁.heap = h0 := by rw [← hh, Bd.state]; rfl
  have N0 := Fr.nil n0
  refine OGo.by (P := fun U' o => ∃ v L, o = .returned v ∧ Q_rm_add1 Z a0 a1 d kd mc c0 h0 n0 v U'.heap L ∧ FrameEnd s o U' L ({ frames := 1, cells := 0, slots := 0, locals := 15 } : Room).cells ({ frames := 1, cells := 0, slots := 0, locals := 15 } : Room).slots) (fun T_ k_ => castTop (ef_rm_add1 m a0 a1) k_) ?_
  show OGo p e below _ (s₁.setTop (mkF m 0 #[.val (.ref a0), .val (.ref a1)] []))
  refine OGo.by (fun _ k => XS.aloadN X0.here hx rfl (hb hby d17_0) rfl rfl k) ?_
  show OGo p e below _ (s₁.setTop (mkF m 1 #[.val (.ref a0), .val (.ref a1)] [(.ref a0)]))
  refine OGo.by (fun _ k => XS.dup X0.here hx rfl (hb hby d17_1) rfl rfl k) ?_
  show OGo p e below _ (s₁.setTop (mkF m 2 #[.val (.ref a0), .val (.ref a1)] [(.ref a0), (.ref a0)]))
  obtain ⟨T1, X1, e1, st1⟩ := getF X0 hx hZ hown (host := "") (Or.inl (hw _ (List.mem_of_getElem? (i := 145) rfl))) (Via.of (hw _ (List.mem_of_getElem? (i := 146) rfl))) e0 f_1 (g := (mkF m 2 #[.val (.ref a0), .val (.ref a1)] [(.ref a0), (.ref a0)])) rfl rfl (hb hby d17_2)
  refine OGo.by st1 ?_
  show OGo p e below _ (T1.setTop (mkF m 5 #[.val (.ref a0), .val (.ref a1)] [(.int mc), (.ref a0)]))
  refine OGo.by (fun _ k => XS.iconst X1.here hx rfl (hb hby d17_5) k) ?_
  show OGo p e below _ (T1.setTop (mkF m 6 #[.val (.ref a0), .val (.ref a1)] [(.int (1 : Int32)), (.int mc), (.ref a0)]))
  refine OGo.by (fun _ k => XS.iadd X1.here hx rfl (hb hby d17_6) rfl k) ?_
  show OGo p e below _ (T1.setTop (mkF m 7 #[.val (.ref a0), .val (.ref a1)] [(.int (mc + (1 : Int32))), (.ref a0)]))
  obtain ⟨T2, h2, X2, e2, W2, st2⟩ := putF X1 hx hZ hown (host := "") (Or.inl (hw _ (List.mem_of_getElem? (i := 145) rfl))) (Via.of (hw _ (List.mem_of_getElem? (i := 146) rfl))) e1 f_1 f_0 (Or.inl (hw _ (List.mem_of_getElem? (i := 22) rfl))) (hw _ (List.mem_of_getElem? (i := 1) rfl)) (ty := .int) (by decide) rfl rfl (g := (mkF m 7 #[.val (.ref a0), .val (.ref a1)] [(.int (mc + (1 : Int32))), (.ref a0)])) rfl rfl (hb hby d17_7)
  refine OGo.by st2 ?_
  have Fw2 := f_1.same W2
  have N2 := Fr.snoc X2 N0 g_a0
  have K2 : Keep h0 h2 [a0, d] := ((Keep.refl h0 [a0, d])).wr W2 (Or.inl (List.mem_of_getElem? (i := 0) rfl))
  show OGo p e below _ (T2.setTop (mkF m 10 #[.val (.ref a0), .val (.ref a1)] []))
  refine OGo.by (fun _ k => XS.aloadN X2.here hx rfl (hb hby d17_10) rfl rfl k) ?_
  show OGo p e below _ (T2.setTop (mkF m 11 #[.val (.ref a0), .val (.ref a1)] [(.ref a0)]))
  refine OGo.by (fun _ k => XS.aloadN X2.here hx rfl (hb hby d17_11) rfl rfl k) ?_
  show OGo p e below _ (T2.setTop (mkF m 12 #[.val (.ref a0), .val (.ref a1)] [(.ref a1), (.ref a0)]))
  refine OGo.by (fun _ k => XS.aloadN X2.here hx rfl (hb hby d17_12) rfl rfl k) ?_
  show OGo p e below _ (T2.setTop (mkF m 13 #[.val (.ref a0), .val (.ref a1)] [(.ref a0), (.ref a1), (.ref a0)]))
  have f3 : Fld Z h2 a0 "java/util/ArrayList" "elementData" "[Ljava/lang/Object;" (.ref d) := (f_3.other W2 (Or.inr (slot_ne (Or.inl (hw _ (List.mem_of_getElem? (i := 25) rfl))) (Or.inl (hw _ (List.mem_of_getElem? (i := 22) rfl))) (by decide) (t := (.array (.object "java/lang/Object"))) (t' := .int) (by decide) (by decide))))
  obtain ⟨T4, X4, e4, st4⟩ := getF X2 hx hZ hown (host := "") (Or.inl (hw _ (List.mem_of_getElem? (i := 24) rfl))) Via.refl e2 f3 (g := (mkF m 13 #[.val (.ref a0), .val (.ref a1)] [(.ref a0), (.ref a1), (.ref a0)])) rfl rfl (hb hby d17_13)
  refine OGo.by st4 ?_
  show OGo p e below _ (T4.setTop (mkF m 16 #[.val (.ref a0), .val (.ref a1)] [(.ref d), (.ref a1), (.ref a0)]))
  refine OGo.by (fun _ k => XS.aloadN X4.here hx rfl (hb hby d17_16) rfl rfl k) ?_
  show OGo p e below _ (T4.setTop (mkF m 17 #[.val (.ref a0), .val (.ref a1)] [(.ref a0), (.ref d), (.ref a1), (.ref a0)]))
  have f5 : Fld Z h2 a0 "java/util/ArrayList" "size" "I" (.int (1 : Int32)) := (f_2.other W2 (Or.inr (slot_ne (Or.inl (hw _ (List.mem_of_getElem? (i := 62) rfl))) (Or.inl (hw _ (List.mem_of_getElem? (i := 22) rfl))) (by decide) (t := .int) (t' := .int) (by decide) (by decide))))
  obtain ⟨T6, X6, e6, st6⟩ := getF X4 hx hZ hown (host := "") (Or.inl (hw _ (List.mem_of_getElem? (i := 61) rfl))) Via.refl e4 f5 (g := (mkF m 17 #[.val (.ref a0), .val (.ref a1)] [(.ref a0), (.ref d), (.ref a1), (.ref a0)])) rfl rfl (hb hby d17_17)
  refine OGo.by st6 ?_
  show OGo p e below _ (T6.setTop (mkF m 20 #[.val (.ref a0), .val (.ref a1)] [(.int (1 : Int32)), (.ref d), (.ref a1), (.ref a0)]))
  have f8 : Exa Z h2 a0 "java/util/ArrayList" := (f_0.wr W2)
  have f9 : Arv Z h2 d kd (.object "java/lang/Object") (10 : Int32) [(.ref c0), .null, .null, .null, .null, .null, .null, .null, .null, .null] .null := (A_d.other W2 (Ne.symm ne_ad))
  have f10 : Exa Z h2 a1 "com/example/kept_inbox/keptinbox/UnreadConversation" := (E_1.wr W2)
  have f11 : Exa Z h2 d "[Ljava/lang/Object;" := (E_d.wr W2)
  obtain ⟨cq7, q7, q7'⟩ := f8.cell
  obtain ⟨_, _, ⟨T7, L7, k7, n7⟩, -, X7, ⟨Lc7, hQ7, l7, y7, z7⟩, st7⟩ := X6.privateBack hx (y := (⟨"java/util/ArrayList", "add", "(Ljava/lang/Object;[Ljava/lang/Object;I)V"⟩ : MethodName)) hown (mvT hZ (hw _ (List.mem_of_getElem? (i := 147) rfl))) (mvT hZ (hw _ (List.mem_of_getElem? (i := 148) rfl))) (mvT hZ (hw _ (List.mem_of_getElem? (i := 150) rfl))) (Cond.privateMethod_at (mvP hZ (hw _ (List.mem_of_getElem? (i := 149) rfl)) (args := #[]))) (mvT hZ (hw _ (List.mem_of_getElem? (i := 151) rfl))) (by decide) (backOf (W := 0) (rm_addH1 l Z av0 hw [] a0 a1 d kd (mc + (1 : Int32)) c0 h2 n0 (Nat.le_trans Z0 K2.1) f8 Fw2 f5 f3 f9 Ov ne_ad g_a0 g_d f10 f11) hZ (hw _ (List.mem_of_getElem? (i := 151) rfl)) (hw _ (List.mem_of_getElem? (i := 2) rfl)) (by decide) (by decide)) (g := (mkF m 20 #[.val (.ref a0), .val (.ref a1)] [(.int (1 : Int32)), (.ref d), (.ref a1), (.ref a0)])) rfl (by rw [hml]; rfl) (Steps.refl _) (a := a0) (by rw [e6]; exact q7) q7' (argsL := [(.ref a1), (.ref d), (.int (1 : Int32))]) (rest := []) (lenOf own_pd4 rfl) rfl (by show 2 * 0 + _ ≤ _; exact Nat.le_of_eq rfl) (hb hby d17_20) (fun _ _ => ⟨rfl, e6, (by decide : 0 + 0 ≤ _), (by decide : 0 + 0 ≤ _)⟩)
  dsimp only [Pt.U, Pt.locs, Pt.cells, Pt.slots] at X7 l7 y7 z7 st7 hQ7
  subst l7 y7 z7
  obtain ⟨rfl, N7q, Kc7, G7_0, G7_1, G7_2, G7_3, G7_4, G7_5⟩ := hQ7
  have N7 := Fr.app N2 N7q
  have K7 : Keep h0 T7.heap [a0, d] := (K2).trans Kc7 (allS (P := fun x => x ∈ ([a0, d] : List Addr) ∨ h0.size ≤ x) (Or.inl (List.mem_of_getElem? (i := 0) rfl)) (allS (P := fun x => x ∈ ([a0, d] : List Addr) ∨ h0.size ≤ x) (Or.inl (List.mem_of_getElem? (i := 1) rfl)) (all0 (P := fun x => x ∈ ([a0, d] : List Addr) ∨ h0.size ≤ x))))
  refine OGo.of st7 ?_
  show OGo p e below _ (T7.setTop (mkF m 23 #[.val (.ref a0), .val (.ref a1)] []))
  refine OGo.by (fun _ k => XS.iconst X7.here hx rfl (hb hby d17_23) k) ?_
  show OGo p e below _ (T7.setTop (mkF m 24 #[.val (.ref a0), .val (.ref a1)] [(.int (1 : Int32))]))
  obtain ⟨fs, hr, hrun, hended, hW, hsame⟩ := X7.leave (v := some (.int (1 : Int32))) (fun h => by rw [Bd.returns] at h; cases h)
  refine OGo.ret (retN X7 hx (t := .boolean) Bd.returns (by simp) (hb hby d17_24) hr) hrun hended ⟨_, _, rfl, ?_, ⟨_, rfl⟩, hW, hsame.mono (by decide) (by decide)⟩
  show Q_rm_add1 Z a0 a1 d kd mc c0 h0 n0 _ T7.heap _
  exact ⟨rfl, N7, K7, G7_0, G7_1, G7_2, G7_3, G7_4, G7_5⟩
theorem ef_rm_addH2 (m : MethodId) (a0 : Addr) (a1 : Addr) (d : Addr) (kd : ClassId) (mc : Int32) (c0 : Addr) (c1 : Addr) : entryFrame m #[(.ref a0), (.ref a1), (.ref d), (.int (2 : Int32))] 4 = mkF m 0 #[.val (.ref a0), .val (.ref a1), .val (.ref d), .val (.int (2 : Int32))] [] := by first | (simp [entryFrame, mkF, argsToLocals, Value.category]; done) | rfl
def Q_rm_addH2 (Z : State) (a0 : Addr) (a1 : Addr) (d : Addr) (kd : ClassId) (mc : Int32) (c0 : Addr) (c1 : Addr) (h0 : Heap) (n0 : Nat) (v : Option Value) (h : Heap) (L : List Loc) : Prop := v = none ∧ Fr n0 L ∧ Keep h0 h [a0, d] ∧ (Exa Z h a0 "java/util/ArrayList") ∧ (Fld Z h a0 "java/util/AbstractList" "modCount" "I" (.int mc)) ∧ (Fld Z h a0 "java/util/ArrayList" "size" "I" (.int (3 : Int32))) ∧ (Fld Z h a0 "java/util/ArrayList" "elementData" "[Ljava/lang/Object;" (.ref d)) ∧ (Arv Z h d kd (.object "java/lang/Object") (10 : Int32) [(.ref c0), (.ref c1), (.ref a1), .null, .null, .null, .null, .null, .null, .null] .null) ∧ (Exa Z h d "[Ljava/lang/Object;")
set_option maxRecDepth 65536 in
set_option maxHeartbeats 40000000 in
theorem rm_addH2 (l : Launch) (Z : State) (av0 : Array Value) (hw : ∀ d ∈ tables_1, d.before av0 Z = true) (ws : List Jvm.Cond) (a0 : Addr) (a1 : Addr) (d : Addr) (kd : ClassId) (mc : Int32) (c0 : Addr) (c1 : Addr) (h0 : Heap) (n0 : Nat) (Z0 : n0 ≤ h0.size) (f_0 : Exa Z h0 a0 "java/util/ArrayList") (f_1 : Fld Z h0 a0 "java/util/AbstractList" "modCount" "I" (.int mc)) (f_2 : Fld Z h0 a0 "java/util/ArrayList" "size" "I" (.int (2 : Int32))) (f_3 : Fld Z h0 a0 "java/util/ArrayList" "elementData" "[Ljava/lang/Object;" (.ref d)) (A_d : Arv Z h0 d kd (.object "java/lang/Object") (10 : Int32) [(.ref c0), (.ref c1), .null, .null, .null, .null, .null, .null, .null, .null] .null) (Ov : Ovr Z kd "java/lang/Object") (ne_ad : a0 ≠ d) (g_a0 : n0 ≤ a0) (g_d : n0 ≤ d) (E_1 : Exa Z h0 a1 "com/example/kept_inbox/keptinbox/UnreadConversation") (E_d : Exa Z h0 d "[Ljava/lang/Object;") :
    MetFree l (⟨"java/util/ArrayList", "add", "(Ljava/lang/Object;[Ljava/lang/Object;I)V"⟩ : MethodName) (head1 (Jvm.Cond.code (⟨"java/util/ArrayList", "add", "(Ljava/lang/Object;[Ljava/lang/Object;I)V"⟩ : MethodName) jdk_38_method_24_code 4 none :: ws) ({ frames := 0, cells := 0, slots := 0, locals := 0 } : Room)) (fun a U => a = #[(.ref a0), (.ref a1), (.ref d), (.int (2 : Int32))] ∧ Z.Warmed39 U.vm ∧ U.heap = h0) (fun _ _ _ _ _ => True) (fun _ U o U' => ∃ v L, o = .returned v ∧ Q_rm_addH2 Z a0 a1 d kd mc c0 c1 h0 n0 v U'.heap L ∧ FrameEnd U o U' L ({ frames := 0, cells := 0, slots := 0, locals := 0 } : Room).cells ({ frames := 0, cells := 0, slots := 0, locals := 0 } : Room).slots) := by
  refine MetFree.of_bodySF (plainFor_of_name own_pn18) hisR ?_
  intro p e s m args below meth c s₁ Bd hml0 hP hK
  obtain ⟨rfl, hZ, hh⟩ := hP
  have hx := Bd.exec
  have hby := Bd.bytes
  have hml : c.maxLocals = 4 := hml0
  have hown : s.vm.findClass "java/util/ArrayList" = some m.cls := findClass_of_methodNamed Bd.named
  have hnm := (name_of_methodNamed Bd.named Bd.method).1
  have X0 : Stand p l e ({ frames := 0, cells := 0, slots := 0, locals := 0 } : Room) s m #[(.ref a0), (.ref a1), (.ref d), (.int (2 : Int32))] below meth c s₁ [] 0 0 := Stand.of_body Bd
  have e0 : s₁.heap = h0 := by rw [← hh, Bd.state]; rfl
  have N0 := Fr.nil n0
  refine OGo.by (P := fun U' o => ∃ v L, o = .returned v ∧ Q_rm_addH2 Z a0 a1 d kd mc c0 c1 h0 n0 v U'.heap L ∧ FrameEnd s o U' L ({ frames := 0, cells := 0, slots := 0, locals := 0 } : Room).cells ({ frames := 0, cells := 0, slots := 0, locals := 0 } : Room).slots) (fun T_ k_ => castTop (ef_rm_addH2 m a0 a1 d kd mc c0 c1) k_) ?_
  show OGo p e below _ (s₁.setTop (mkF m 0 #[.val (.ref a0), .val (.ref a1), .val (.ref d), .val (.int (2 : Int32))] []))
  refine OGo.by (fun _ k => XS.iloadN X0.here hx rfl (hb hby d18_0) rfl k) ?_
  show OGo p e below _ (s₁.setTop (mkF m 1 #[.val (.ref a0), .val (.ref a1), .val (.ref d), .val (.int (2 : Int32))] [(.int (2 : Int32))]))
  refine OGo.by (fun _ k => XS.aloadN X0.here hx rfl (hb hby d18_1) rfl rfl k) ?_
  show OGo p e below _ (s₁.setTop (mkF m 2 #[.val (.ref a0), .val (.ref a1), .val (.ref d), .val (.int (2 : Int32))] [(.ref d), (.int (2 : Int32))]))
  obtain ⟨cl1, Ar1, q1, S1, M1, -, -⟩ := id A_d
  refine OGo.by (X0.arraylength hx (by rw [e0]; exact Ar1.1) (State.isArrayOf_alike hZ.alike Ar1.2.1) (g := (mkF m 2 #[.val (.ref a0), .val (.ref a1), .val (.ref d), .val (.int (2 : Int32))] [(.ref d), (.int (2 : Int32))])) rfl rfl (hb hby d18_2)) ?_
  rw [len_of S1 M1]
  show OGo p e below _ (s₁.setTop (mkF m 3 #[.val (.ref a0), .val (.ref a1), .val (.ref d), .val (.int (2 : Int32))] [(.int (10 : Int32)), (.int (2 : Int32))]))
  refine OGo.by (fun _ k => XS.icmpYes X0.here hx rfl (pc0 := 3) (pc' := 11) rfl (hb hby d18_3) rfl (feq (by decide : ¬ ((2 : Int32) = (10 : Int32)))).2 (by decide) (by decide) k) ?_
  show OGo p e below _ (s₁.setTop (mkF m 11 #[.val (.ref a0), .val (.ref a1), .val (.ref d), .val (.int (2 : Int32))] []))
  refine OGo.by (fun _ k => XS.aloadN X0.here hx rfl (hb hby d18_11) rfl rfl k) ?_
  show OGo p e below _ (s₁.setTop (mkF m 12 #[.val (.ref a0), .val (.ref a1), .val (.ref d), .val (.int (2 : Int32))] [(.ref d)]))
  refine OGo.by (fun _ k => XS.iloadN X0.here hx rfl (hb hby d18_12) rfl k) ?_
  show OGo p e below _ (s₁.setTop (mkF m 13 #[.val (.ref a0), .val (.ref a1), .val (.ref d), .val (.int (2 : Int32))] [(.int (2 : Int32)), (.ref d)]))
  refine OGo.by (fun _ k => XS.aloadN X0.here hx rfl (hb hby d18_13) rfl rfl k) ?_
  show OGo p e below _ (s₁.setTop (mkF m 14 #[.val (.ref a0), .val (.ref a1), .val (.ref d), .val (.int (2 : Int32))] [(.ref a1), (.int (2 : Int32)), (.ref d)]))
  obtain ⟨cl2, Ar2, q2, S2, M2, Hs2, G2⟩ := id A_d
  obtain ⟨T2, h2, X2, e2, W2, st2⟩ := stR X0 hx hZ e0 Ar2 (j := (2 : Int32)) (inb_of S2 ⟨(by decide), (by decide)⟩) rfl (Sto.ofV Ar2 q2 Ov (Ins.of_exa E_1 (hw _ (List.mem_of_getElem? (i := 168) rfl)))) (g := (mkF m 14 #[.val (.ref a0), .val (.ref a1), .val (.ref d), .val (.int (2 : Int32))] [(.ref a1), (.int (2 : Int32)), (.ref d)])) rfl rfl (hb hby d18_14)
  refine OGo.by st2 ?_
  have N2 := Fr.snoc X2 N0 g_d
  have K2 : Keep h0 h2 [a0, d] := ((Keep.refl h0 [a0, d])).wr W2 (Or.inl (List.mem_of_getElem? (i := 1) rfl))
  have V2 : Arv Z h2 d kd (.object "java/lang/Object") (10 : Int32) [(.ref c0), (.ref c1), (.ref a1), .null, .null, .null, .null, .null, .null, .null] .null := Arv.set Ar2 q2 S2 M2 Hs2 G2 rfl W2 2 rfl (Nat.le_of_ble_eq_true rfl)
  show OGo p e below _ (T2.setTop (mkF m 15 #[.val (.ref a0), .val (.ref a1), .val (.ref d), .val (.int (2 : Int32))] []))
  refine OGo.by (fun _ k => XS.aloadN X2.here hx rfl (hb hby d18_15) rfl rfl k) ?_
  show OGo p e below _ (T2.setTop (mkF m 16 #[.val (.ref a0), .val (.ref a1), .val (.ref d), .val (.int (2 : Int32))] [(.ref a0)]))
  refine OGo.by (fun _ k => XS.iloadN X2.here hx rfl (hb hby d18_16) rfl k) ?_
  show OGo p e below _ (T2.setTop (mkF m 17 #[.val (.ref a0), .val (.ref a1), .val (.ref d), .val (.int (2 : Int32))] [(.int (2 : Int32)), (.ref a0)]))
  refine OGo.by (fun _ k => XS.iconst X2.here hx rfl (hb hby d18_17) k) ?_
  show OGo p e below _ (T2.setTop (mkF m 18 #[.val (.ref a0), .val (.ref a1), .val (.ref d), .val (.int (2 : Int32))] [(.int (1 : Int32)), (.int (2 : Int32)), (.ref a0)]))
  refine OGo.by (fun _ k => XS.iadd X2.here hx rfl (hb hby d18_18) rfl k) ?_
  show OGo p e below _ (T2.setTop (mkF m 19 #[.val (.ref a0), .val (.ref a1), .val (.ref d), .val (.int (2 : Int32))] [(.int (3 : Int32)), (.ref a0)]))
  have f3 : Exa Z h2 a0 "java/util/ArrayList" := (f_0.wr W2)
  have f4 : Fld Z h2 a0 "java/util/ArrayList" "size" "I" (.int (2 : Int32)) := (f_2.other W2 (Or.inl ne_ad))
  obtain ⟨T5, h5, X5, e5, W5, st5⟩ := putF X2 hx hZ hown (host := "") (Or.inl (hw _ (List.mem_of_getElem? (i := 61) rfl))) Via.refl e2 f4 f3 (Or.inl (hw _ (List.mem_of_getElem? (i := 62) rfl))) (hw _ (List.mem_of_getElem? (i := 1) rfl)) (ty := .int) (by decide) rfl rfl (g := (mkF m 19 #[.val (.ref a0), .val (.ref a1), .val (.ref d), .val (.int (2 : Int32))] [(.int (3 : Int32)), (.ref a0)])) rfl rfl (hb hby d18_19)
  refine OGo.by st5 ?_
  have Fw5 := f4.same W5
  have N5 := Fr.snoc X5 N2 g_a0
  have K5 : Keep h0 h5 [a0, d] := (K2).wr W5 (Or.inl (List.mem_of_getElem? (i := 0) rfl))
  show OGo p e below _ (T5.setTop (mkF m 22 #[.val (.ref a0), .val (.ref a1), .val (.ref d), .val (.int (2 : Int32))] []))
  obtain ⟨fs, hr, hrun, hended, hW, hsame⟩ := X5.leave (v := none) (fun _ => rfl)
  refine OGo.ret (X5.returnOut hx Bd.returns (hb hby d18_22) hr) hrun hended ⟨_, _, rfl, ?_, ⟨_, rfl⟩, hW, hsame.mono (by decide) (by decide)⟩
  show Q_rm_addH2 Z a0 a1 d kd mc c0 c1 h0 n0 _ T5.heap _
  rw [e5]
  have f6 : Exa Z h5 a0 "java/util/ArrayList" := (f3.wr W5)
  have f7 : Fld Z h5 a0 "java/util/AbstractList" "modCount" "I" (.int mc) := ((f_1.other W2 (Or.inl ne_ad)).other W5 (Or.inr (slot_ne (Or.inl (hw _ (List.mem_of_getElem? (i := 22) rfl))) (Or.inl (hw _ (List.mem_of_getElem? (i := 62) rfl))) (by decide) (t := .int) (t' := .int) (by decide) (by decide))))
  have f8 : Fld Z h5 a0 "java/util/ArrayList" "elementData" "[Ljava/lang/Object;" (.ref d) := ((f_3.other W2 (Or.inl ne_ad)).other W5 (Or.inr (slot_ne (Or.inl (hw _ (List.mem_of_getElem? (i := 25) rfl))) (Or.inl (hw _ (List.mem_of_getElem? (i := 62) rfl))) (by decide) (t := (.array (.object "java/lang/Object"))) (t' := .int) (by decide) (by decide))))
  have f9 : Arv Z h5 d kd (.object "java/lang/Object") (10 : Int32) [(.ref c0), (.ref c1), (.ref a1), .null, .null, .null, .null, .null, .null, .null] .null := (V2.other W5 (Ne.symm ne_ad))
  have f10 : Exa Z h5 d "[Ljava/lang/Object;" := ((E_d.wr W2).wr W5)
  exact ⟨rfl, N5, K5, f6, f7, Fw5, f8, f9, f10⟩
theorem ef_rm_add2 (m : MethodId) (a0 : Addr) (a1 : Addr) : entryFrame m #[(.ref a0), (.ref a1)] 2 = mkF m 0 #[.val (.ref a0), .val (.ref a1)] [] := by first | (simp [entryFrame, mkF, argsToLocals, Value.category]; done) | rfl
def Q_rm_add2 (Z : State) (a0 : Addr) (a1 : Addr) (d : Addr) (kd : ClassId) (mc : Int32) (c0 : Addr) (c1 : Addr) (h0 : Heap) (n0 : Nat) (v : Option Value) (h : Heap) (L : List Loc) : Prop := v = some (.int (1 : Int32)) ∧ Fr n0 L ∧ Keep h0 h [a0, d] ∧ (Exa Z h a0 "java/util/ArrayList") ∧ (Fld Z h a0 "java/util/AbstractList" "modCount" "I" (.int (mc + (1 : Int32)))) ∧ (Fld Z h a0 "java/util/ArrayList" "size" "I" (.int (3 : Int32))) ∧ (Fld Z h a0 "java/util/ArrayList" "elementData" "[Ljava/lang/Object;" (.ref d)) ∧ (Arv Z h d kd (.object "java/lang/Object") (10 : Int32) [(.ref c0), (.ref c1), (.ref a1), .null, .null, .null, .null, .null, .null, .null] .null) ∧ (Exa Z h d "[Ljava/lang/Object;")
set_option maxRecDepth 65536 in
set_option maxHeartbeats 40000000 in
theorem rm_add2 (l : Launch) (Z : State) (av0 : Array Value) (hw : ∀ d ∈ tables_1, d.before av0 Z = true) (ws : List Jvm.Cond) (a0 : Addr) (a1 : Addr) (d : Addr) (kd : ClassId) (mc : Int32) (c0 : Addr) (c1 : Addr) (h0 : Heap) (n0 : Nat) (Z0 : n0 ≤ h0.size) (f_0 : Exa Z h0 a0 "java/util/ArrayList") (f_1 : Fld Z h0 a0 "java/util/AbstractList" "modCount" "I" (.int mc)) (f_2 : Fld Z h0 a0 "java/util/ArrayList" "size" "I" (.int (2 : Int32))) (f_3 : Fld Z h0 a0 "java/util/ArrayList" "elementData" "[Ljava/lang/Object;" (.ref d)) (A_d : Arv Z h0 d kd (.object "java/lang/Object") (10 : Int32) [(.ref c0), (.ref c1), .null, .null, .null, .null, .null, .null, .null, .null] .null) (Ov : Ovr Z kd "java/lang/Object") (ne_ad : a0 ≠ d) (g_a0 : n0 ≤ a0) (g_d : n0 ≤ d) (E_1 : Exa Z h0 a1 "com/example/kept_inbox/keptinbox/UnreadConversation") (E_d : Exa Z h0 d "[Ljava/lang/Object;") :
    MetFree l (⟨"java/util/ArrayList", "add", "(Ljava/lang/Object;)Z"⟩ : MethodName) (head1 (Jvm.Cond.code (⟨"java/util/ArrayList", "add", "(Ljava/lang/Object;)Z"⟩ : MethodName) jdk_38_method_25_code 2 (some .boolean) :: ws) ({ frames := 1, cells := 0, slots := 0, locals := 15 } : Room)) (fun a U => a = #[(.ref a0), (.ref a1)] ∧ Z.Warmed39 U.vm ∧ U.heap = h0) (fun _ _ _ _ _ => True) (fun _ U o U' => ∃ v L, o = .returned v ∧ Q_rm_add2 Z a0 a1 d kd mc c0 c1 h0 n0 v U'.heap L ∧ FrameEnd U o U' L ({ frames := 1, cells := 0, slots := 0, locals := 15 } : Room).cells ({ frames := 1, cells := 0, slots := 0, locals := 15 } : Room).slots) := by
  refine MetFree.of_bodySF (plainFor_of_name own_pn17) hisR ?_
  intro p e s m args below meth c s₁ Bd hml0 hP hK
  obtain ⟨rfl, hZ, hh⟩ := hP
  have hx := Bd.exec
  have hby := Bd.bytes
  have hml : c.maxLocals = 2 := hml0
  have hown : s.vm.findClass "java/util/ArrayList" = some m.cls := findClass_of_methodNamed Bd.named
  have hnm := (name_of_methodNamed Bd.named Bd.method).1
  have X0 : Stand p l e ({ frames := 1, cells := 0, slots := 0, locals := 15 } : Room) s m #[(.ref a0), (.ref a1)] below meth c s₁ [] 0 0 := Stand.of_body Bd
  have e0 : s₁.heap = h0 := by rw [← hh, Bd.state]; rfl
  have N0 := Fr.nil n0
  refine OGo.by (P := fun U' o => ∃ v L, o = .returned v ∧ Q_rm_add2 Z a0 a1 d kd mc c0 c1 h0 n0 v U'.heap L ∧ FrameEnd s o U' L ({ frames := 1, cells := 0, slots := 0, locals := 15 } : Room).cells ({ frames := 1, cells := 0, slots := 0, locals := 15 } : Room).slots) (fun T_ k_ => castTop (ef_rm_add2 m a0 a1) k_) ?_
  show OGo p e below _ (s₁.setTop (mkF m 0 #[.val (.ref a0), .val (.ref a1)] []))
  refine OGo.by (fun _ k => XS.aloadN X0.here hx rfl (hb hby d17_0) rfl rfl k) ?_
  show OGo p e below _ (s₁.setTop (mkF m 1 #[.val (.ref a0), .val (.ref a1)] [(.ref a0)]))
  refine OGo.by (fun _ k => XS.dup X0.here hx rfl (hb hby d17_1) rfl rfl k) ?_
  show OGo p e below _ (s₁.setTop (mkF m 2 #[.val (.ref a0), .val (.ref a1)] [(.ref a0), (.ref a0)]))
  obtain ⟨T1, X1, e1, st1⟩ := getF X0 hx hZ hown (host := "") (Or.inl (hw _ (List.mem_of_getElem? (i := 145) rfl))) (Via.of (hw _ (List.mem_of_getElem? (i := 146) rfl))) e0 f_1 (g := (mkF m 2 #[.val (.ref a0), .val (.ref a1)] [(.ref a0), (.ref a0)])) rfl rfl (hb hby d17_2)
  refine OGo.by st1 ?_
  show OGo p e below _ (T1.setTop (mkF m 5 #[.val (.ref a0), .val (.ref a1)] [(.int mc), (.ref a0)]))
  refine OGo.by (fun _ k => XS.iconst X1.here hx rfl (hb hby d17_5) k) ?_
  show OGo p e below _ (T1.setTop (mkF m 6 #[.val (.ref a0), .val (.ref a1)] [(.int (1 : Int32)), (.int mc), (.ref a0)]))
  refine OGo.by (fun _ k => XS.iadd X1.here hx rfl (hb hby d17_6) rfl k) ?_
  show OGo p e below _ (T1.setTop (mkF m 7 #[.val (.ref a0), .val (.ref a1)] [(.int (mc + (1 : Int32))), (.ref a0)]))
  obtain ⟨T2, h2, X2, e2, W2, st2⟩ := putF X1 hx hZ hown (host := "") (Or.inl (hw _ (List.mem_of_getElem? (i := 145) rfl))) (Via.of (hw _ (List.mem_of_getElem? (i := 146) rfl))) e1 f_1 f_0 (Or.inl (hw _ (List.mem_of_getElem? (i := 22) rfl))) (hw _ (List.mem_of_getElem? (i := 1) rfl)) (ty := .int) (by decide) rfl rfl (g := (mkF m 7 #[.val (.ref a0), .val (.ref a1)] [(.int (mc + (1 : Int32))), (.ref a0)])) rfl rfl (hb hby d17_7)
  refine OGo.by st2 ?_
  have Fw2 := f_1.same W2
  have N2 := Fr.snoc X2 N0 g_a0
  have K2 : Keep h0 h2 [a0, d] := ((Keep.refl h0 [a0, d])).wr W2 (Or.inl (List.mem_of_getElem? (i := 0) rfl))
  show OGo p e below _ (T2.setTop (mkF m 10 #[.val (.ref a0), .val (.ref a1)] []))
  refine OGo.by (fun _ k => XS.aloadN X2.here hx rfl (hb hby d17_10) rfl rfl k) ?_
  show OGo p e below _ (T2.setTop (mkF m 11 #[.val (.ref a0), .val (.ref a1)] [(.ref a0)]))
  refine OGo.by (fun _ k => XS.aloadN X2.here hx rfl (hb hby d17_11) rfl rfl k) ?_
  show OGo p e below _ (T2.setTop (mkF m 12 #[.val (.ref a0), .val (.ref a1)] [(.ref a1), (.ref a0)]))
  refine OGo.by (fun _ k => XS.aloadN X2.here hx rfl (hb hby d17_12) rfl rfl k) ?_
  show OGo p e below _ (T2.setTop (mkF m 13 #[.val (.ref a0), .val (.ref a1)] [(.ref a0), (.ref a1), (.ref a0)]))
  have f3 : Fld Z h2 a0 "java/util/ArrayList" "elementData" "[Ljava/lang/Object;" (.ref d) := (f_3.other W2 (Or.inr (slot_ne (Or.inl (hw _ (List.mem_of_getElem? (i := 25) rfl))) (Or.inl (hw _ (List.mem_of_getElem? (i := 22) rfl))) (by decide) (t := (.array (.object "java/lang/Object"))) (t' := .int) (by decide) (by decide))))
  obtain ⟨T4, X4, e4, st4⟩ := getF X2 hx hZ hown (host := "") (Or.inl (hw _ (List.mem_of_getElem? (i := 24) rfl))) Via.refl e2 f3 (g := (mkF m 13 #[.val (.ref a0), .val (.ref a1)] [(.ref a0), (.ref a1), (.ref a0)])) rfl rfl (hb hby d17_13)
  refine OGo.by st4 ?_
  show OGo p e below _ (T4.setTop (mkF m 16 #[.val (.ref a0), .val (.ref a1)] [(.ref d), (.ref a1), (.ref a0)]))
  refine OGo.by (fun _ k => XS.aloadN X4.here hx rfl (hb hby d17_16) rfl rfl k) ?_
  show OGo p e below _ (T4.setTop (mkF m 17 #[.val (.ref a0), .val (.ref a1)] [(.ref a0), (.ref d), (.ref a1), (.ref a0)]))
  have f5 : Fld Z h2 a0 "java/util/ArrayList" "size" "I" (.int (2 : Int32)) := (f_2.other W2 (Or.inr (slot_ne (Or.inl (hw _ (List.mem_of_getElem? (i := 62) rfl))) (Or.inl (hw _ (List.mem_of_getElem? (i := 22) rfl))) (by decide) (t := .int) (t' := .int) (by decide) (by decide))))
  obtain ⟨T6, X6, e6, st6⟩ := getF X4 hx hZ hown (host := "") (Or.inl (hw _ (List.mem_of_getElem? (i := 61) rfl))) Via.refl e4 f5 (g := (mkF m 17 #[.val (.ref a0), .val (.ref a1)] [(.ref a0), (.ref d), (.ref a1), (.ref a0)])) rfl rfl (hb hby d17_17)
  refine OGo.by st6 ?_
  show OGo p e below _ (T6.setTop (mkF m 20 #[.val (.ref a0), .val (.ref a1)] [(.int (2 : Int32)), (.ref d), (.ref a1), (.ref a0)]))
  have f8 : Exa Z h2 a0 "java/util/ArrayList" := (f_0.wr W2)
  have f9 : Arv Z h2 d kd (.object "java/lang/Object") (10 : Int32) [(.ref c0), (.ref c1), .null, .null, .null, .null, .null, .null, .null, .null] .null := (A_d.other W2 (Ne.symm ne_ad))
  have f10 : Exa Z h2 a1 "com/example/kept_inbox/keptinbox/UnreadConversation" := (E_1.wr W2)
  have f11 : Exa Z h2 d "[Ljava/lang/Object;" := (E_d.wr W2)
  obtain ⟨cq7, q7, q7'⟩ := f8.cell
  obtain ⟨_, _, ⟨T7, L7, k7, n7⟩, -, X7, ⟨Lc7, hQ7, l7, y7, z7⟩, st7⟩ := X6.privateBack hx (y := (⟨"java/util/ArrayList", "add", "(Ljava/lang/Object;[Ljava/lang/Object;I)V"⟩ : MethodName)) hown (mvT hZ (hw _ (List.mem_of_getElem? (i := 147) rfl))) (mvT hZ (hw _ (List.mem_of_getElem? (i := 148) rfl))) (mvT hZ (hw _ (List.mem_of_getElem? (i := 150) rfl))) (Cond.privateMethod_at (mvP hZ (hw _ (List.mem_of_getElem? (i := 149) rfl)) (args := #[]))) (mvT hZ (hw _ (List.mem_of_getElem? (i := 151) rfl))) (by decide) (backOf (W := 0) (rm_addH2 l Z av0 hw [] a0 a1 d kd (mc + (1 : Int32)) c0 c1 h2 n0 (Nat.le_trans Z0 K2.1) f8 Fw2 f5 f3 f9 Ov ne_ad g_a0 g_d f10 f11) hZ (hw _ (List.mem_of_getElem? (i := 151) rfl)) (hw _ (List.mem_of_getElem? (i := 2) rfl)) (by decide) (by decide)) (g := (mkF m 20 #[.val (.ref a0), .val (.ref a1)] [(.int (2 : Int32)), (.ref d), (.ref a1), (.ref a0)])) rfl (by rw [hml]; rfl) (Steps.refl _) (a := a0) (by rw [e6]; exact q7) q7' (argsL := [(.ref a1), (.ref d), (.int (2 : Int32))]) (rest := []) (lenOf own_pd4 rfl) rfl (by show 2 * 0 + _ ≤ _; exact Nat.le_of_eq rfl) (hb hby d17_20) (fun _ _ => ⟨rfl, e6, (by decide : 0 + 0 ≤ _), (by decide : 0 + 0 ≤ _)⟩)
  dsimp only [Pt.U, Pt.locs, Pt.cells, Pt.slots] at X7 l7 y7 z7 st7 hQ7
  subst l7 y7 z7
  obtain ⟨rfl, N7q, Kc7, G7_0, G7_1, G7_2, G7_3, G7_4, G7_5⟩ := hQ7
  have N7 := Fr.app N2 N7q
  have K7 : Keep h0 T7.heap [a0, d] := (K2).trans Kc7 (allS (P := fun x => x ∈ ([a0, d] : List Addr) ∨ h0.size ≤ x) (Or.inl (List.mem_of_getElem? (i := 0) rfl)) (allS (P := fun x => x ∈ ([a0, d] : List Addr) ∨ h0.size ≤ x) (Or.inl (List.mem_of_getElem? (i := 1) rfl)) (all0 (P := fun x => x ∈ ([a0, d] : List Addr) ∨ h0.size ≤ x))))
  refine OGo.of st7 ?_
  show OGo p e below _ (T7.setTop (mkF m 23 #[.val (.ref a0), .val (.ref a1)] []))
  refine OGo.by (fun _ k => XS.iconst X7.here hx rfl (hb hby d17_23) k) ?_
  show OGo p e below _ (T7.setTop (mkF m 24 #[.val (.ref a0), .val (.ref a1)] [(.int (1 : Int32))]))
  obtain ⟨fs, hr, hrun, hended, hW, hsame⟩ := X7.leave (v := some (.int (1 : Int32))) (fun h => by rw [Bd.returns] at h; cases h)
  refine OGo.ret (retN X7 hx (t := .boolean) Bd.returns (by simp) (hb hby d17_24) hr) hrun hended ⟨_, _, rfl, ?_, ⟨_, rfl⟩, hW, hsame.mono (by decide) (by decide)⟩
  show Q_rm_add2 Z a0 a1 d kd mc c0 c1 h0 n0 _ T7.heap _
  exact ⟨rfl, N7, K7, G7_0, G7_1, G7_2, G7_3, G7_4, G7_5⟩
theorem d28_0 : decode jdk_31_method_10_code 0 = .ok (.aload_n 0, 1) := by decide +kernel
theorem d28_1 : decode jdk_31_method_10_code 1 = .ok (.ifnonnull 11, 3) := by decide +kernel
theorem d28_12 : decode jdk_31_method_10_code 12 = .ok (.aload_n 0, 1) := by decide +kernel
theorem d28_13 : decode jdk_31_method_10_code 13 = .ok (.areturn, 1) := by decide +kernel
theorem own_pn28 : plainName "java/util/Objects" = true := by first | (simp [plainName, overriddenIn]; done) | decide +kernel
theorem ef_rm28 (m : MethodId) (a0 : Addr) : entryFrame m #[(.ref a0)] 1 = mkF m 0 #[.val (.ref a0)] [] := by first | (simp [entryFrame, mkF, argsToLocals, Value.category]; done) | rfl
def Q_rm28 (Z : State) (a0 : Addr) (h0 : Heap) (n0 : Nat) (v : Option Value) (h : Heap) (L : List Loc) : Prop := v = some (.ref a0) ∧ Fr n0 L ∧ h = h0
set_option maxRecDepth 65536 in
set_option maxHeartbeats 40000000 in
theorem rm28 (l : Launch) (Z : State) (av0 : Array Value) (hw : ∀ d ∈ tables_1, d.before av0 Z = true) (ws : List Jvm.Cond) (a0 : Addr) (h0 : Heap) (n0 : Nat) (Z0 : n0 ≤ h0.size) :
    MetFree l (⟨"java/util/Objects", "requireNonNull", "(Ljava/lang/Object;)Ljava/lang/Object;"⟩ : MethodName) (head1 (Jvm.Cond.code (⟨"java/util/Objects", "requireNonNull", "(Ljava/lang/Object;)Ljava/lang/Object;"⟩ : MethodName) jdk_31_method_10_code 1 (some (.object "java/lang/Object")) :: ws) ({ frames := 0, cells := 0, slots := 0, locals := 0 } : Room)) (fun a U => a = #[(.ref a0)] ∧ Z.Warmed39 U.vm ∧ U.heap = h0) (fun _ _ _ _ _ => True) (fun _ U o U' => ∃ v L, o = .returned v ∧ Q_rm28 Z a0 h0 n0 v U'.heap L ∧ FrameEnd U o U' L ({ frames := 0, cells := 0, slots := 0, locals := 0 } : Room).cells ({ frames := 0, cells := 0, slots := 0, locals := 0 } : Room).slots) := by
  refine MetFree.of_bodySF (plainFor_of_name own_pn28) hisR ?_
  intro p e s m args below meth c s₁ Bd hml0 hP hK
  obtain ⟨rfl, hZ, hh⟩ := hP
  have hx := Bd.exec
  have hby := Bd.bytes
  have hml : c.maxLocals = 1 := hml0
  have hown : s.vm.findClass "java/util/Objects" = some m.cls := findClass_of_methodNamed Bd.named
  have hnm := (name_of_methodNamed Bd.named Bd.method).1
  have X0 : Stand p l e ({ frames := 0, cells := 0, slots := 0, locals := 0 } : Room) s m #[(.ref a0)] below meth c s₁ [] 0 0 := Stand.of_body Bd
  have e0 : s₁.heap = h0 := by rw [← hh, Bd.state]; rfl
  have N0 := Fr.nil n0
  refine OGo.by (P := fun U' o => ∃ v L, o = .returned v ∧ Q_rm28 Z a0 h0 n0 v U'.heap L ∧ FrameEnd s o U' L ({ frames := 0, cells := 0, slots := 0, locals := 0 } : Room).cells ({ frames := 0, cells := 0, slots := 0, locals := 0 } : Room).slots) (fun T_ k_ => castTop (ef_rm28 m a0) k_) ?_
  show OGo p e below _ (s₁.setTop (mkF m 0 #[.val (.ref a0)] []))
  refine OGo.by (fun _ k => XS.aloadN X0.here hx rfl (hb hby d28_0) rfl rfl k) ?_
  show OGo p e below _ (s₁.setTop (mkF m 1 #[.val (.ref a0)] [(.ref a0)]))
  refine OGo.by (fun _ k => XS.ifnonnullYes X0.here hx rfl (pc0 := 1) (pc' := 12) rfl (hb hby d28_1) rfl (by decide) (by decide) k) ?_
  show OGo p e below _ (s₁.setTop (mkF m 12 #[.val (.ref a0)] []))
  refine OGo.by (fun _ k => XS.aloadN X0.here hx rfl (hb hby d28_12) rfl rfl k) ?_
  show OGo p e below _ (s₁.setTop (mkF m 13 #[.val (.ref a0)] [(.ref a0)]))
  obtain ⟨fs, hr, hrun, hended, hW, hsame⟩ := X0.leave (v := some (.ref a0)) (fun h => by rw [Bd.returns] at h; cases h)
  refine OGo.ret (retOut X0 hx Bd.returns rfl (Or.inr (Or.inr (Or.inr (Or.inr ⟨rfl, rfl, rfl⟩)))) (hb hby d28_13) hr) hrun hended ⟨_, _, rfl, ?_, ⟨_, rfl⟩, hW, hsame.mono (by decide) (by decide)⟩
  show Q_rm28 Z a0 h0 n0 _ s₁.heap _
  rw [e0]
  exact ⟨rfl, N0, rfl⟩
theorem d10_0 : decode jdk_40_method_36_code 0 = .ok (.getstatic 90, 3) := by decide +kernel
theorem d10_3 : decode jdk_40_method_36_code 3 = .ok (.areturn, 1) := by decide +kernel
theorem own_pn10 : plainName "java/util/List" = true := by first | (simp [plainName, overriddenIn]; done) | decide +kernel
theorem ef_rm_of0 (m : MethodId)  : entryFrame m #[] 0 = mkF m 0 #[] [] := by first | (simp [entryFrame, mkF, argsToLocals, Value.category]; done) | rfl
def Q_rm_of0 (Z : State) (wl : Addr) (h0 : Heap) (n0 : Nat) (v : Option Value) (h : Heap) (L : List Loc) : Prop := v = some (.ref wl) ∧ Fr n0 L ∧ h = h0
set_option maxRecDepth 65536 in
set_option maxHeartbeats 40000000 in
theorem rm_of0 (l : Launch) (Z : State) (av0 : Array Value) (hw : ∀ d ∈ tables_1, d.before av0 Z = true) (ws : List Jvm.Cond) (wl : Addr) (h0 : Heap) (n0 : Nat) (Z0 : n0 ≤ h0.size) (O_0 : Old Z n0 h0) (S_l : Sta Z Z.heap "java/util/ImmutableCollections" "EMPTY_LIST" "Ljava/util/ImmutableCollections$ListN;" (.ref wl)) :
    MetFree l (⟨"java/util/List", "of", "()Ljava/util/List;"⟩ : MethodName) (head1 (Jvm.Cond.code (⟨"java/util/List", "of", "()Ljava/util/List;"⟩ : MethodName) jdk_40_method_36_code 0 (some (.object "java/util/List")) :: ws) ({ frames := 0, cells := 0, slots := 0, locals := 0 } : Room)) (fun a U => a = #[] ∧ Z.Warmed39 U.vm ∧ U.heap = h0) (fun _ _ _ _ _ => True) (fun _ U o U' => ∃ v L, o = .returned v ∧ Q_rm_of0 Z wl h0 n0 v U'.heap L ∧ FrameEnd U o U' L ({ frames := 0, cells := 0, slots := 0, locals := 0 } : Room).cells ({ frames := 0, cells := 0, slots := 0, locals := 0 } : Room).slots) := by
  refine MetFree.of_bodySF (plainFor_of_name own_pn10) hisR ?_
  intro p e s m args below meth c s₁ Bd hml0 hP hK
  obtain ⟨rfl, hZ, hh⟩ := hP
  have hx := Bd.exec
  have hby := Bd.bytes
  have hml : c.maxLocals = 0 := hml0
  have hown : s.vm.findClass "java/util/List" = some m.cls := findClass_of_methodNamed Bd.named
  have hnm := (name_of_methodNamed Bd.named Bd.method).1
  have X0 : Stand p l e ({ frames := 0, cells := 0, slots := 0, locals := 0 } : Room) s m #[] below meth c s₁ [] 0 0 := Stand.of_body Bd
  have e0 : s₁.heap = h0 := by rw [← hh, Bd.state]; rfl
  have N0 := Fr.nil n0
  refine OGo.by (P := fun U' o => ∃ v L, o = .returned v ∧ Q_rm_of0 Z wl h0 n0 v U'.heap L ∧ FrameEnd s o U' L ({ frames := 0, cells := 0, slots := 0, locals := 0 } : Room).cells ({ frames := 0, cells := 0, slots := 0, locals := 0 } : Room).slots) (fun T_ k_ => castTop (ef_rm_of0 m ) k_) ?_
  show OGo p e below _ (s₁.setTop (mkF m 0 #[] []))
  obtain ⟨T1, X1, e1, st1⟩ := getS2 X0 hx hZ hown (host := "") (Or.inl (hw _ (List.mem_of_getElem? (i := 66) rfl))) Via.refl e0 (S_l.ext O_0.2) (g := (mkF m 0 #[] [])) rfl (hb hby d10_0)
  refine OGo.by st1 ?_
  show OGo p e below _ (T1.setTop (mkF m 3 #[] [(.ref wl)]))
  obtain ⟨fs, hr, hrun, hended, hW, hsame⟩ := X1.leave (v := some (.ref wl)) (fun h => by rw [Bd.returns] at h; cases h)
  refine OGo.ret (retOut X1 hx Bd.returns rfl (Or.inr (Or.inr (Or.inr (Or.inr ⟨rfl, rfl, rfl⟩)))) (hb hby d10_3) hr) hrun hended ⟨_, _, rfl, ?_, ⟨_, rfl⟩, hW, hsame.mono (by decide) (by decide)⟩
  show Q_rm_of0 Z wl h0 n0 _ T1.heap _
  rw [e1]
  exact ⟨rfl, N0, rfl⟩
theorem d35_0 : decode jdk_44_method_1_code 0 = .ok (.aload_n 0, 1) := by decide +kernel
theorem d35_1 : decode jdk_44_method_1_code 1 = .ok (.invokespecial 1, 3) := by decide +kernel
theorem d35_4 : decode jdk_44_method_1_code 4 = .ok (.aload_n 0, 1) := by decide +kernel
theorem d35_5 : decode jdk_44_method_1_code 5 = .ok (.aload_n 1, 1) := by decide +kernel
theorem d35_6 : decode jdk_44_method_1_code 6 = .ok (.invokestatic 7, 3) := by decide +kernel
theorem own_pd5 : parseMethodDescriptor "(Ljava/lang/Object;)Ljava/lang/Object;" = some ⟨[(.object "java/lang/Object")], some (.object "java/lang/Object")⟩ := by decide +kernel
theorem d35_9 : decode jdk_44_method_1_code 9 = .ok (.putfield 13, 3) := by decide +kernel
theorem d35_12 : decode jdk_44_method_1_code 12 = .ok (.aload_n 0, 1) := by decide +kernel
theorem d35_13 : decode jdk_44_method_1_code 13 = .ok (.getstatic 19, 3) := by decide +kernel
theorem d35_16 : decode jdk_44_method_1_code 16 = .ok (.putfield 24, 3) := by decide +kernel
theorem d35_19 : decode jdk_44_method_1_code 19 = .ok (.return_, 1) := by decide +kernel
theorem own_pn35 : plainName "java/util/ImmutableCollections$List12" = true := by first | (simp [plainName, overriddenIn]; done) | decide +kernel
theorem ef_rm_l1 (m : MethodId) (a0 : Addr) (a1 : Addr) : entryFrame m #[(.ref a0), (.ref a1)] 2 = mkF m 0 #[.val (.ref a0), .val (.ref a1)] [] := by first | (simp [entryFrame, mkF, argsToLocals, Value.category]; done) | rfl
def Q_rm_l1 (Z : State) (a0 : Addr) (a1 : Addr) (we : Addr) (h0 : Heap) (n0 : Nat) (v : Option Value) (h : Heap) (L : List Loc) : Prop := v = none ∧ Fr n0 L ∧ Keep h0 h [a0] ∧ (Exa Z h a0 "java/util/ImmutableCollections$List12") ∧ (Fld Z h a0 "java/util/ImmutableCollections$List12" "e0" "Ljava/lang/Object;" (.ref a1)) ∧ (Fld Z h a0 "java/util/ImmutableCollections$List12" "e1" "Ljava/lang/Object;" (.ref we))
set_option maxRecDepth 65536 in
set_option maxHeartbeats 40000000 in
theorem rm_l1 (l : Launch) (Z : State) (av0 : Array Value) (hw : ∀ d ∈ tables_1, d.before av0 Z = true) (ws : List Jvm.Cond) (a0 : Addr) (a1 : Addr) (we : Addr) (h0 : Heap) (n0 : Nat) (Z0 : n0 ≤ h0.size) (E0 : Exa Z h0 a0 "java/util/ImmutableCollections$List12") (F0 : Fld Z h0 a0 "java/util/ImmutableCollections$List12" "e0" "Ljava/lang/Object;" .null) (F1 : Fld Z h0 a0 "java/util/ImmutableCollections$List12" "e1" "Ljava/lang/Object;" .null) (g_a0 : n0 ≤ a0) (O_0 : Old Z n0 h0) (S_e : Sta Z Z.heap "java/util/ImmutableCollections" "EMPTY" "Ljava/lang/Object;" (.ref we)) :
    MetFree l (⟨"java/util/ImmutableCollections$List12", "<init>", "(Ljava/lang/Object;)V"⟩ : MethodName) (head1 (Jvm.Cond.code (⟨"java/util/ImmutableCollections$List12", "<init>", "(Ljava/lang/Object;)V"⟩ : MethodName) jdk_44_method_1_code 2 none :: ws) ({ frames := 4, cells := 0, slots := 0, locals := 48 } : Room)) (fun a U => a = #[(.ref a0), (.ref a1)] ∧ Z.Warmed39 U.vm ∧ U.heap = h0) (fun _ _ _ _ _ => True) (fun _ U o U' => ∃ v L, o = .returned v ∧ Q_rm_l1 Z a0 a1 we h0 n0 v U'.heap L ∧ FrameEnd U o U' L ({ frames := 4, cells := 0, slots := 0, locals := 48 } : Room).cells ({ frames := 4, cells := 0, slots := 0, locals := 48 } : Room).slots) := by
  refine MetFree.of_bodySF (plainFor_of_name own_pn35) hisR ?_
  intro p e s m args below meth c s₁ Bd hml0 hP hK
  obtain ⟨rfl, hZ, hh⟩ := hP
  have hx := Bd.exec
  have hby := Bd.bytes
  have hml : c.maxLocals = 2 := hml0
  have hown : s.vm.findClass "java/util/ImmutableCollections$List12" = some m.cls := findClass_of_methodNamed Bd.named
  have hnm := (name_of_methodNamed Bd.named Bd.method).1
  have X0 : Stand p l e ({ frames := 4, cells := 0, slots := 0, locals := 48 } : Room) s m #[(.ref a0), (.ref a1)] below meth c s₁ [] 0 0 := Stand.of_body Bd
  have e0 : s₁.heap = h0 := by rw [← hh, Bd.state]; rfl
  have N0 := Fr.nil n0
  refine OGo.by (P := fun U' o => ∃ v L, o = .returned v ∧ Q_rm_l1 Z a0 a1 we h0 n0 v U'.heap L ∧ FrameEnd s o U' L ({ frames := 4, cells := 0, slots := 0, locals := 48 } : Room).cells ({ frames := 4, cells := 0, slots := 0, locals := 48 } : Room).slots) (fun T_ k_ => castTop (ef_rm_l1 m a0 a1) k_) ?_
  show OGo p e below _ (s₁.setTop (mkF m 0 #[.val (.ref a0), .val (.ref a1)] []))
  refine OGo.by (fun _ k => XS.aloadN X0.here hx rfl (hb hby d35_0) rfl rfl k) ?_
  show OGo p e below _ (s₁.setTop (mkF m 1 #[.val (.ref a0), .val (.ref a1)] [(.ref a0)]))
  obtain ⟨_, _, ⟨T1, L1, k1, n1⟩, -, X1, ⟨Lc1, hQ1, l1, y1, z1⟩, st1⟩ := X0.specialBack hx (y := (⟨"java/util/ImmutableCollections$AbstractImmutableList", "<init>", "()V"⟩ : MethodName)) rfl hown (mvT hZ (hw _ (List.mem_of_getElem? (i := 264) rfl))) (mvT hZ (hw _ (List.mem_of_getElem? (i := 220) rfl))) (mvT hZ (hw _ (List.mem_of_getElem? (i := 223) rfl))) (by decide) (backOf (W := 0) (rm30 l Z av0 hw [] a0 h0 n0 Z0) hZ (hw _ (List.mem_of_getElem? (i := 223) rfl)) (hw _ (List.mem_of_getElem? (i := 82) rfl)) (by decide) (by decide)) (g := (mkF m 1 #[.val (.ref a0), .val (.ref a1)] [(.ref a0)])) rfl (by rw [hml]; rfl) (Steps.refl _) (a := a0) (argsL := []) (rest := []) (lenOf own_pd0 rfl) rfl (by show 2 * 0 + _ ≤ _; exact Nat.le_of_eq rfl) (hb hby d35_1) (fun _ _ => ⟨rfl, e0, (by decide : 0 + 0 ≤ _), (by decide : 0 + 0 ≤ _)⟩)
  dsimp only [Pt.U, Pt.locs, Pt.cells, Pt.slots] at X1 l1 y1 z1 st1 hQ1
  subst l1 y1 z1
  obtain ⟨rfl, N1q, e1⟩ := hQ1
  have N1 := Fr.app N0 N1q
  refine OGo.of st1 ?_
  show OGo p e below _ (T1.setTop (mkF m 4 #[.val (.ref a0), .val (.ref a1)] []))
  refine OGo.by (fun _ k => XS.aloadN X1.here hx rfl (hb hby d35_4) rfl rfl k) ?_
  show OGo p e below _ (T1.setTop (mkF m 5 #[.val (.ref a0), .val (.ref a1)] [(.ref a0)]))
  refine OGo.by (fun _ k => XS.aloadN X1.here hx rfl (hb hby d35_5) rfl rfl k) ?_
  show OGo p e below _ (T1.setTop (mkF m 6 #[.val (.ref a0), .val (.ref a1)] [(.ref a1), (.ref a0)]))
  obtain ⟨_, _, ⟨T2, L2, k2, n2⟩, -, X2, ⟨Lc2, hQ2, l2, y2, z2⟩, st2⟩ := Jvm.LawKit.callS X1 hx (y := (⟨"java/util/Objects", "requireNonNull", "(Ljava/lang/Object;)Ljava/lang/Object;"⟩ : MethodName)) hown (mvT hZ (hw _ (List.mem_of_getElem? (i := 268) rfl))) (mvT hZ (hw _ (List.mem_of_getElem? (i := 211) rfl))) (mvT hZ (hw _ (List.mem_of_getElem? (i := 212) rfl))) (mvT hZ (hw _ (List.mem_of_getElem? (i := 213) rfl))) (by decide) (backOf (W := 1) (rm28 l Z av0 hw [] a1 h0 n0 Z0) hZ (hw _ (List.mem_of_getElem? (i := 213) rfl)) (hw _ (List.mem_of_getElem? (i := 212) rfl)) (by decide) (by decide)) (g := (mkF m 6 #[.val (.ref a0), .val (.ref a1)] [(.ref a1), (.ref a0)])) rfl (by rw [hml]; rfl) (argsL := [(.ref a1)]) (rest := [(.ref a0)]) (lenOf own_pd5 rfl) rfl (by show 2 * 0 + _ ≤ _; exact Nat.le_of_eq rfl) (hb hby d35_6) (fun _ _ => ⟨rfl, e1, (by decide : 0 + 0 ≤ _), (by decide : 0 + 0 ≤ _)⟩)
  dsimp only [Pt.U, Pt.locs, Pt.cells, Pt.slots] at X2 l2 y2 z2 st2 hQ2
  subst l2 y2 z2
  obtain ⟨rfl, N2q, e2⟩ := hQ2
  have N2 := Fr.app N1 N2q
  refine OGo.by st2 ?_
  show OGo p e below _ (T2.setTop (mkF m 9 #[.val (.ref a0), .val (.ref a1)] [(.ref a1), (.ref a0)]))
  obtain ⟨T3, h3, X3, e3, W3, st3⟩ := putF X2 hx hZ hown (host := "") (Or.inl (hw _ (List.mem_of_getElem? (i := 269) rfl))) Via.refl e2 F0 E0 (Or.inr ⟨(hw _ (List.mem_of_getElem? (i := 270) rfl)), rfl, hnm⟩) (hw _ (List.mem_of_getElem? (i := 258) rfl)) (ty := (.object "java/lang/Object")) (by decide) rfl rfl (g := (mkF m 9 #[.val (.ref a0), .val (.ref a1)] [(.ref a1), (.ref a0)])) rfl rfl (hb hby d35_9)
  refine OGo.by st3 ?_
  have Fw3 := F0.same W3
  have N3 := Fr.snoc X3 N2 g_a0
  have K3 : Keep h0 h3 [a0] := ((Keep.refl h0 [a0])).wr W3 (Or.inl (List.mem_of_getElem? (i := 0) rfl))
  show OGo p e below _ (T3.setTop (mkF m 12 #[.val (.ref a0), .val (.ref a1)] []))
  refine OGo.by (fun _ k => XS.aloadN X3.here hx rfl (hb hby d35_12) rfl rfl k) ?_
  show OGo p e below _ (T3.setTop (mkF m 13 #[.val (.ref a0), .val (.ref a1)] [(.ref a0)]))
  have f4 : Old Z n0 h3 := (O_0.wr W3 g_a0)
  obtain ⟨T5, X5, e5, st5⟩ := getS2 X3 hx hZ hown (Or.inr (hw _ (List.mem_of_getElem? (i := 271) rfl))) Via.refl e3 (S_e.ext f4.2) (g := (mkF m 13 #[.val (.ref a0), .val (.ref a1)] [(.ref a0)])) rfl (hb hby d35_13)
  refine OGo.by st5 ?_
  show OGo p e below _ (T5.setTop (mkF m 16 #[.val (.ref a0), .val (.ref a1)] [(.ref we), (.ref a0)]))
  have f6 : Exa Z h3 a0 "java/util/ImmutableCollections$List12" := (E0.wr W3)
  have f7 : Fld Z h3 a0 "java/util/ImmutableCollections$List12" "e1" "Ljava/lang/Object;" .null := (F1.other W3 (Or.inr (slot_ne (Or.inr (hw _ (List.mem_of_getElem? (i := 273) rfl))) (Or.inr (hw _ (List.mem_of_getElem? (i := 270) rfl))) (by decide) (t := (.object "java/lang/Object")) (t' := (.object "java/lang/Object")) (by decide) (by decide))))
  obtain ⟨T8, h8, X8, e8, W8, st8⟩ := putF X5 hx hZ hown (host := "") (Or.inl (hw _ (List.mem_of_getElem? (i := 272) rfl))) Via.refl e5 f7 f6 (Or.inr ⟨(hw _ (List.mem_of_getElem? (i := 273) rfl)), rfl, hnm⟩) (hw _ (List.mem_of_getElem? (i := 258) rfl)) (ty := (.object "java/lang/Object")) (by decide) rfl rfl (g := (mkF m 16 #[.val (.ref a0), .val (.ref a1)] [(.ref we), (.ref a0)])) rfl rfl (hb hby d35_16)
  refine OGo.by st8 ?_
  have Fw8 := f7.same W8
  have N8 := Fr.snoc X8 N3 g_a0
  have K8 : Keep h0 h8 [a0] := (K3).wr W8 (Or.inl (List.mem_of_getElem? (i := 0) rfl))
  show OGo p e below _ (T8.setTop (mkF m 19 #[.val (.ref a0), .val (.ref a1)] []))
  obtain ⟨fs, hr, hrun, hended, hW, hsame⟩ := X8.leave (v := none) (fun _ => rfl)
  refine OGo.ret (X8.returnOut hx Bd.returns (hb hby d35_19) hr) hrun hended ⟨_, _, rfl, ?_, ⟨_, rfl⟩, hW, hsame.mono (by decide) (by decide)⟩
  show Q_rm_l1 Z a0 a1 we h0 n0 _ T8.heap _
  rw [e8]
  have f9 : Exa Z h8 a0 "java/util/ImmutableCollections$List12" := (f6.wr W8)
  have f10 : Fld Z h8 a0 "java/util/ImmutableCollections$List12" "e0" "Ljava/lang/Object;" (.ref a1) := (Fw3.other W8 (Or.inr (slot_ne (Or.inr (hw _ (List.mem_of_getElem? (i := 270) rfl))) (Or.inr (hw _ (List.mem_of_getElem? (i := 273) rfl))) (by decide) (t := (.object "java/lang/Object")) (t' := (.object "java/lang/Object")) (by decide) (by decide))))
  exact ⟨rfl, N8, K8, f9, f10, Fw8⟩
theorem d38_0 : decode jdk_44_method_2_code 0 = .ok (.aload_n 0, 1) := by decide +kernel
theorem d38_1 : decode jdk_44_method_2_code 1 = .ok (.invokespecial 1, 3) := by decide +kernel
theorem d38_4 : decode jdk_44_method_2_code 4 = .ok (.aload_n 0, 1) := by decide +kernel
theorem d38_5 : decode jdk_44_method_2_code 5 = .ok (.aload_n 1, 1) := by decide +kernel
theorem d38_6 : decode jdk_44_method_2_code 6 = .ok (.invokestatic 7, 3) := by decide +kernel
theorem d38_9 : decode jdk_44_method_2_code 9 = .ok (.putfield 13, 3) := by decide +kernel
theorem d38_12 : decode jdk_44_method_2_code 12 = .ok (.aload_n 0, 1) := by decide +kernel
theorem d38_13 : decode jdk_44_method_2_code 13 = .ok (.aload_n 2, 1) := by decide +kernel
theorem d38_14 : decode jdk_44_method_2_code 14 = .ok (.invokestatic 7, 3) := by decide +kernel
theorem d38_17 : decode jdk_44_method_2_code 17 = .ok (.putfield 24, 3) := by decide +kernel
theorem d38_20 : decode jdk_44_method_2_code 20 = .ok (.return_, 1) := by decide +kernel
theorem own_pn38 : plainName "java/util/ImmutableCollections$List12" = true := by first | (simp [plainName, overriddenIn]; done) | decide +kernel
theorem ef_rm_l2 (m : MethodId) (a0 : Addr) (a1 : Addr) (a2 : Addr) : entryFrame m #[(.ref a0), (.ref a1), (.ref a2)] 3 = mkF m 0 #[.val (.ref a0), .val (.ref a1), .val (.ref a2)] [] := by first | (simp [entryFrame, mkF, argsToLocals, Value.category]; done) | rfl
def Q_rm_l2 (Z : State) (a0 : Addr) (a1 : Addr) (a2 : Addr) (h0 : Heap) (n0 : Nat) (v : Option Value) (h : Heap) (L : List Loc) : Prop := v = none ∧ Fr n0 L ∧ Keep h0 h [a0] ∧ (Exa Z h a0 "java/util/ImmutableCollections$List12") ∧ (Fld Z h a0 "java/util/ImmutableCollections$List12" "e0" "Ljava/lang/Object;" (.ref a1)) ∧ (Fld Z h a0 "java/util/ImmutableCollections$List12" "e1" "Ljava/lang/Object;" (.ref a2))
set_option maxRecDepth 65536 in
set_option maxHeartbeats 40000000 in
theorem rm_l2 (l : Launch) (Z : State) (av0 : Array Value) (hw : ∀ d ∈ tables_1, d.before av0 Z = true) (ws : List Jvm.Cond) (a0 : Addr) (a1 : Addr) (a2 : Addr) (h0 : Heap) (n0 : Nat) (Z0 : n0 ≤ h0.size) (E0 : Exa Z h0 a0 "java/util/ImmutableCollections$List12") (F0 : Fld Z h0 a0 "java/util/ImmutableCollections$List12" "e0" "Ljava/lang/Object;" .null) (F1 : Fld Z h0 a0 "java/util/ImmutableCollections$List12" "e1" "Ljava/lang/Object;" .null) (g_a0 : n0 ≤ a0) :
    MetFree l (⟨"java/util/ImmutableCollections$List12", "<init>", "(Ljava/lang/Object;Ljava/lang/Object;)V"⟩ : MethodName) (head1 (Jvm.Cond.code (⟨"java/util/ImmutableCollections$List12", "<init>", "(Ljava/lang/Object;Ljava/lang/Object;)V"⟩ : MethodName) jdk_44_method_2_code 3 none :: ws) ({ frames := 4, cells := 0, slots := 0, locals := 48 } : Room)) (fun a U => a = #[(.ref a0), (.ref a1), (.ref a2)] ∧ Z.Warmed39 U.vm ∧ U.heap = h0) (fun _ _ _ _ _ => True) (fun _ U o U' => ∃ v L, o = .returned v ∧ Q_rm_l2 Z a0 a1 a2 h0 n0 v U'.heap L ∧ FrameEnd U o U' L ({ frames := 4, cells := 0, slots := 0, locals := 48 } : Room).cells ({ frames := 4, cells := 0, slots := 0, locals := 48 } : Room).slots) := by
  refine MetFree.of_bodySF (plainFor_of_name own_pn38) hisR ?_
  intro p e s m args below meth c s₁ Bd hml0 hP hK
  obtain ⟨rfl, hZ, hh⟩ := hP
  have hx := Bd.exec
  have hby := Bd.bytes
  have hml : c.maxLocals = 3 := hml0
  have hown : s.vm.findClass "java/util/ImmutableCollections$List12" = some m.cls := findClass_of_methodNamed Bd.named
  have hnm := (name_of_methodNamed Bd.named Bd.method).1
  have X0 : Stand p l e ({ frames := 4, cells := 0, slots := 0, locals := 48 } : Room) s m #[(.ref a0), (.ref a1), (.ref a2)] below meth c s₁ [] 0 0 := Stand.of_body Bd
  have e0 : s₁.heap = h0 := by rw [← hh, Bd.state]; rfl
  have N0 := Fr.nil n0
  refine OGo.by (P := fun U' o => ∃ v L, o = .returned v ∧ Q_rm_l2 Z a0 a1 a2 h0 n0 v U'.heap L ∧ FrameEnd s o U' L ({ frames := 4, cells := 0, slots := 0, locals := 48 } : Room).cells ({ frames := 4, cells := 0, slots := 0, locals := 48 } : Room).slots) (fun T_ k_ => castTop (ef_rm_l2 m a0 a1 a2) k_) ?_
  show OGo p e below _ (s₁.setTop (mkF m 0 #[.val (.ref a0), .val (.ref a1), .val (.ref a2)] []))
  refine OGo.by (fun _ k => XS.aloadN X0.here hx rfl (hb hby d38_0) rfl rfl k) ?_
  show OGo p e below _ (s₁.setTop (mkF m 1 #[.val (.ref a0), .val (.ref a1), .val (.ref a2)] [(.ref a0)]))
  obtain ⟨_, _, ⟨T1, L1, k1, n1⟩, -, X1, ⟨Lc1, hQ1, l1, y1, z1⟩, st1⟩ := X0.specialBack hx (y := (⟨"java/util/ImmutableCollections$AbstractImmutableList", "<init>", "()V"⟩ : MethodName)) rfl hown (mvT hZ (hw _ (List.mem_of_getElem? (i := 264) rfl))) (mvT hZ (hw _ (List.mem_of_getElem? (i := 220) rfl))) (mvT hZ (hw _ (List.mem_of_getElem? (i := 223) rfl))) (by decide) (backOf (W := 0) (rm30 l Z av0 hw [] a0 h0 n0 Z0) hZ (hw _ (List.mem_of_getElem? (i := 223) rfl)) (hw _ (List.mem_of_getElem? (i := 82) rfl)) (by decide) (by decide)) (g := (mkF m 1 #[.val (.ref a0), .val (.ref a1), .val (.ref a2)] [(.ref a0)])) rfl (by rw [hml]; rfl) (Steps.refl _) (a := a0) (argsL := []) (rest := []) (lenOf own_pd0 rfl) rfl (by show 2 * 0 + _ ≤ _; exact Nat.le_of_eq rfl) (hb hby d38_1) (fun _ _ => ⟨rfl, e0, (by decide : 0 + 0 ≤ _), (by decide : 0 + 0 ≤ _)⟩)
  dsimp only [Pt.U, Pt.locs, Pt.cells, Pt.slots] at X1 l1 y1 z1 st1 hQ1
  subst l1 y1 z1
  obtain ⟨rfl, N1q, e1⟩ := hQ1
  have N1 := Fr.app N0 N1q
  refine OGo.of st1 ?_
  show OGo p e below _ (T1.setTop (mkF m 4 #[.val (.ref a0), .val (.ref a1), .val (.ref a2)] []))
  refine OGo.by (fun _ k => XS.aloadN X1.here hx rfl (hb hby d38_4) rfl rfl k) ?_
  show OGo p e below _ (T1.setTop (mkF m 5 #[.val (.ref a0), .val (.ref a1), .val (.ref a2)] [(.ref a0)]))
  refine OGo.by (fun _ k => XS.aloadN X1.here hx rfl (hb hby d38_5) rfl rfl k) ?_
  show OGo p e below _ (T1.setTop (mkF m 6 #[.val (.ref a0), .val (.ref a1), .val (.ref a2)] [(.ref a1), (.ref a0)]))
  obtain ⟨_, _, ⟨T2, L2, k2, n2⟩, -, X2, ⟨Lc2, hQ2, l2, y2, z2⟩, st2⟩ := Jvm.LawKit.callS X1 hx (y := (⟨"java/util/Objects", "requireNonNull", "(Ljava/lang/Object;)Ljava/lang/Object;"⟩ : MethodName)) hown (mvT hZ (hw _ (List.mem_of_getElem? (i := 268) rfl))) (mvT hZ (hw _ (List.mem_of_getElem? (i := 211) rfl))) (mvT hZ (hw _ (List.mem_of_getElem? (i := 212) rfl))) (mvT hZ (hw _ (List.mem_of_getElem? (i := 213) rfl))) (by decide) (backOf (W := 1) (rm28 l Z av0 hw [] a1 h0 n0 Z0) hZ (hw _ (List.mem_of_getElem? (i := 213) rfl)) (hw _ (List.mem_of_getElem? (i := 212) rfl)) (by decide) (by decide)) (g := (mkF m 6 #[.val (.ref a0), .val (.ref a1), .val (.ref a2)] [(.ref a1), (.ref a0)])) rfl (by rw [hml]; rfl) (argsL := [(.ref a1)]) (rest := [(.ref a0)]) (lenOf own_pd5 rfl) rfl (by show 2 * 0 + _ ≤ _; exact Nat.le_of_eq rfl) (hb hby d38_6) (fun _ _ => ⟨rfl, e1, (by decide : 0 + 0 ≤ _), (by decide : 0 + 0 ≤ _)⟩)
  dsimp only [Pt.U, Pt.locs, Pt.cells, Pt.slots] at X2 l2 y2 z2 st2 hQ2
  subst l2 y2 z2
  obtain ⟨rfl, N2q, e2⟩ := hQ2
  have N2 := Fr.app N1 N2q
  refine OGo.by st2 ?_
  show OGo p e below _ (T2.setTop (mkF m 9 #[.val (.ref a0), .val (.ref a1), .val (.ref a2)] [(.ref a1), (.ref a0)]))
  obtain ⟨T3, h3, X3, e3, W3, st3⟩ := putF X2 hx hZ hown (host := "") (Or.inl (hw _ (List.mem_of_getElem? (i := 269) rfl))) Via.refl e2 F0 E0 (Or.inr ⟨(hw _ (List.mem_of_getElem? (i := 270) rfl)), rfl, hnm⟩) (hw _ (List.mem_of_getElem? (i := 258) rfl)) (ty := (.object "java/lang/Object")) (by decide) rfl rfl (g := (mkF m 9 #[.val (.ref a0), .val (.ref a1), .val (.ref a2)] [(.ref a1), (.ref a0)])) rfl rfl (hb hby d38_9)
  refine OGo.by st3 ?_
  have Fw3 := F0.same W3
  have N3 := Fr.snoc X3 N2 g_a0
  have K3 : Keep h0 h3 [a0] := ((Keep.refl h0 [a0])).wr W3 (Or.inl (List.mem_of_getElem? (i := 0) rfl))
  show OGo p e below _ (T3.setTop (mkF m 12 #[.val (.ref a0), .val (.ref a1), .val (.ref a2)] []))
  refine OGo.by (fun _ k => XS.aloadN X3.here hx rfl (hb hby d38_12) rfl rfl k) ?_
  show OGo p e below _ (T3.setTop (mkF m 13 #[.val (.ref a0), .val (.ref a1), .val (.ref a2)] [(.ref a0)]))
  refine OGo.by (fun _ k => XS.aloadN X3.here hx rfl (hb hby d38_13) rfl rfl k) ?_
  show OGo p e below _ (T3.setTop (mkF m 14 #[.val (.ref a0), .val (.ref a1), .val (.ref a2)] [(.ref a2), (.ref a0)]))
  obtain ⟨_, _, ⟨T4, L4, k4, n4⟩, -, X4, ⟨Lc4, hQ4, l4, y4, z4⟩, st4⟩ := Jvm.LawKit.callS X3 hx (y := (⟨"java/util/Objects", "requireNonNull", "(Ljava/lang/Object;)Ljava/lang/Object;"⟩ : MethodName)) hown (mvT hZ (hw _ (List.mem_of_getElem? (i := 268) rfl))) (mvT hZ (hw _ (List.mem_of_getElem? (i := 211) rfl))) (mvT hZ (hw _ (List.mem_of_getElem? (i := 212) rfl))) (mvT hZ (hw _ (List.mem_of_getElem? (i := 213) rfl))) (by decide) (backOf (W := 1) (rm28 l Z av0 hw [] a2 h3 n0 (Nat.le_trans Z0 K3.1)) hZ (hw _ (List.mem_of_getElem? (i := 213) rfl)) (hw _ (List.mem_of_getElem? (i := 212) rfl)) (by decide) (by decide)) (g := (mkF m 14 #[.val (.ref a0), .val (.ref a1), .val (.ref a2)] [(.ref a2), (.ref a0)])) rfl (by rw [hml]; rfl) (argsL := [(.ref a2)]) (rest := [(.ref a0)]) (lenOf own_pd5 rfl) rfl (by show 2 * 0 + _ ≤ _; exact Nat.le_of_eq rfl) (hb hby d38_14) (fun _ _ => ⟨rfl, e3, (by decide : 0 + 0 ≤ _), (by decide : 0 + 0 ≤ _)⟩)
  dsimp only [Pt.U, Pt.locs, Pt.cells, Pt.slots] at X4 l4 y4 z4 st4 hQ4
  subst l4 y4 z4
  obtain ⟨rfl, N4q, e4⟩ := hQ4
  have N4 := Fr.app N3 N4q
  refine OGo.by st4 ?_
  show OGo p e below _ (T4.setTop (mkF m 17 #[.val (.ref a0), .val (.ref a1), .val (.ref a2)] [(.ref a2), (.ref a0)]))
  have f5 : Exa Z h3 a0 "java/util/ImmutableCollections$List12" := (E0.wr W3)
  have f6 : Fld Z h3 a0 "java/util/ImmutableCollections$List12" "e1" "Ljava/lang/Object;" .null := (F1.other W3 (Or.inr (slot_ne (Or.inr (hw _ (List.mem_of_getElem? (i := 273) rfl))) (Or.inr (hw _ (List.mem_of_getElem? (i := 270) rfl))) (by decide) (t := (.object "java/lang/Object")) (t' := (.object "java/lang/Object")) (by decide) (by decide))))
  obtain ⟨T7, h7, X7, e7, W7, st7⟩ := putF X4 hx hZ hown (host := "") (Or.inl (hw _ (List.mem_of_getElem? (i := 272) rfl))) Via.refl e4 f6 f5 (Or.inr ⟨(hw _ (List.mem_of_getElem? (i := 273) rfl)), rfl, hnm⟩) (hw _ (List.mem_of_getElem? (i := 258) rfl)) (ty := (.object "java/lang/Object")) (by decide) rfl rfl (g := (mkF m 17 #[.val (.ref a0), .val (.ref a1), .val (.ref a2)] [(.ref a2), (.ref a0)])) rfl rfl (hb hby d38_17)
  refine OGo.by st7 ?_
  have Fw7 := f6.same W7
  have N7 := Fr.snoc X7 N4 g_a0
  have K7 : Keep h0 h7 [a0] := (K3).wr W7 (Or.inl (List.mem_of_getElem? (i := 0) rfl))
  show OGo p e below _ (T7.setTop (mkF m 20 #[.val (.ref a0), .val (.ref a1), .val (.ref a2)] []))
  obtain ⟨fs, hr, hrun, hended, hW, hsame⟩ := X7.leave (v := none) (fun _ => rfl)
  refine OGo.ret (X7.returnOut hx Bd.returns (hb hby d38_20) hr) hrun hended ⟨_, _, rfl, ?_, ⟨_, rfl⟩, hW, hsame.mono (by decide) (by decide)⟩
  show Q_rm_l2 Z a0 a1 a2 h0 n0 _ T7.heap _
  rw [e7]
  have f8 : Exa Z h7 a0 "java/util/ImmutableCollections$List12" := (f5.wr W7)
  have f9 : Fld Z h7 a0 "java/util/ImmutableCollections$List12" "e0" "Ljava/lang/Object;" (.ref a1) := (Fw3.other W7 (Or.inr (slot_ne (Or.inr (hw _ (List.mem_of_getElem? (i := 270) rfl))) (Or.inr (hw _ (List.mem_of_getElem? (i := 273) rfl))) (by decide) (t := (.object "java/lang/Object")) (t' := (.object "java/lang/Object")) (by decide) (by decide))))
  exact ⟨rfl, N7, K7, f8, f9, Fw7⟩
theorem d29_0 : decode jdk_45_method_1_code 0 = .ok (.aload_n 0, 1) := by decide +kernel
theorem d29_1 : decode jdk_45_method_1_code 1 = .ok (.invokespecial 1, 3) := by decide +kernel
theorem d29_4 : decode jdk_45_method_1_code 4 = .ok (.aload_n 0, 1) := by decide +kernel
theorem d29_5 : decode jdk_45_method_1_code 5 = .ok (.aload_n 1, 1) := by decide +kernel
theorem d29_6 : decode jdk_45_method_1_code 6 = .ok (.putfield 7, 3) := by decide +kernel
theorem d29_9 : decode jdk_45_method_1_code 9 = .ok (.aload_n 0, 1) := by decide +kernel
theorem d29_10 : decode jdk_45_method_1_code 10 = .ok (.iload_n 2, 1) := by decide +kernel
theorem d29_11 : decode jdk_45_method_1_code 11 = .ok (.putfield 13, 3) := by decide +kernel
theorem d29_14 : decode jdk_45_method_1_code 14 = .ok (.return_, 1) := by decide +kernel
theorem own_pn29 : plainName "java/util/ImmutableCollections$ListN" = true := by first | (simp [plainName, overriddenIn]; done) | decide +kernel
theorem ef_rm29 (m : MethodId) (a0 : Addr) (a1 : Addr) : entryFrame m #[(.ref a0), (.ref a1), (.int (0 : Int32))] 3 = mkF m 0 #[.val (.ref a0), .val (.ref a1), .val (.int (0 : Int32))] [] := by first | (simp [entryFrame, mkF, argsToLocals, Value.category]; done) | rfl
def Q_rm29 (Z : State) (a0 : Addr) (a1 : Addr) (h0 : Heap) (n0 : Nat) (v : Option Value) (h : Heap) (L : List Loc) : Prop := v = none ∧ Fr n0 L ∧ Keep h0 h [a0] ∧ (Exa Z h a0 "java/util/ImmutableCollections$ListN") ∧ (Fld Z h a0 "java/util/ImmutableCollections$ListN" "elements" "[Ljava/lang/Object;" (.ref a1))
set_option maxRecDepth 65536 in
set_option maxHeartbeats 40000000 in
theorem rm29 (l : Launch) (Z : State) (av0 : Array Value) (hw : ∀ d ∈ tables_1, d.before av0 Z = true) (ws : List Jvm.Cond) (a0 : Addr) (a1 : Addr) (h0 : Heap) (n0 : Nat) (Z0 : n0 ≤ h0.size) (E0 : Exa Z h0 a0 "java/util/ImmutableCollections$ListN") (F0 : Fld Z h0 a0 "java/util/ImmutableCollections$ListN" "elements" "[Ljava/lang/Object;" .null) (F1 : Fld Z h0 a0 "java/util/ImmutableCollections$ListN" "allowNulls" "Z" (.int (0 : Int32))) (g_a0 : n0 ≤ a0) :
    MetFree l (⟨"java/util/ImmutableCollections$ListN", "<init>", "([Ljava/lang/Object;Z)V"⟩ : MethodName) (head1 (Jvm.Cond.code (⟨"java/util/ImmutableCollections$ListN", "<init>", "([Ljava/lang/Object;Z)V"⟩ : MethodName) jdk_45_method_1_code 3 none :: ws) ({ frames := 4, cells := 0, slots := 0, locals := 48 } : Room)) (fun a U => a = #[(.ref a0), (.ref a1), (.int (0 : Int32))] ∧ Z.Warmed39 U.vm ∧ U.heap = h0) (fun _ _ _ _ _ => True) (fun _ U o U' => ∃ v L, o = .returned v ∧ Q_rm29 Z a0 a1 h0 n0 v U'.heap L ∧ FrameEnd U o U' L ({ frames := 4, cells := 0, slots := 0, locals := 48 } : Room).cells ({ frames := 4, cells := 0, slots := 0, locals := 48 } : Room).slots) := by
  refine MetFree.of_bodySF (plainFor_of_name own_pn29) hisR ?_
  intro p e s m args below meth c s₁ Bd hml0 hP hK
  obtain ⟨rfl, hZ, hh⟩ := hP
  have hx := Bd.exec
  have hby := Bd.bytes
  have hml : c.maxLocals = 3 := hml0
  have hown : s.vm.findClass "java/util/ImmutableCollections$ListN" = some m.cls := findClass_of_methodNamed Bd.named
  have hnm := (name_of_methodNamed Bd.named Bd.method).1
  have X0 : Stand p l e ({ frames := 4, cells := 0, slots := 0, locals := 48 } : Room) s m #[(.ref a0), (.ref a1), (.int (0 : Int32))] below meth c s₁ [] 0 0 := Stand.of_body Bd
  have e0 : s₁.heap = h0 := by rw [← hh, Bd.state]; rfl
  have N0 := Fr.nil n0
  refine OGo.by (P := fun U' o => ∃ v L, o = .returned v ∧ Q_rm29 Z a0 a1 h0 n0 v U'.heap L ∧ FrameEnd s o U' L ({ frames := 4, cells := 0, slots := 0, locals := 48 } : Room).cells ({ frames := 4, cells := 0, slots := 0, locals := 48 } : Room).slots) (fun T_ k_ => castTop (ef_rm29 m a0 a1) k_) ?_
  show OGo p e below _ (s₁.setTop (mkF m 0 #[.val (.ref a0), .val (.ref a1), .val (.int (0 : Int32))] []))
  refine OGo.by (fun _ k => XS.aloadN X0.here hx rfl (hb hby d29_0) rfl rfl k) ?_
  show OGo p e below _ (s₁.setTop (mkF m 1 #[.val (.ref a0), .val (.ref a1), .val (.int (0 : Int32))] [(.ref a0)]))
  obtain ⟨_, _, ⟨T1, L1, k1, n1⟩, -, X1, ⟨Lc1, hQ1, l1, y1, z1⟩, st1⟩ := X0.specialBack hx (y := (⟨"java/util/ImmutableCollections$AbstractImmutableList", "<init>", "()V"⟩ : MethodName)) rfl hown (mvT hZ (hw _ (List.mem_of_getElem? (i := 219) rfl))) (mvT hZ (hw _ (List.mem_of_getElem? (i := 220) rfl))) (mvT hZ (hw _ (List.mem_of_getElem? (i := 223) rfl))) (by decide) (backOf (W := 0) (rm30 l Z av0 hw [] a0 h0 n0 Z0) hZ (hw _ (List.mem_of_getElem? (i := 223) rfl)) (hw _ (List.mem_of_getElem? (i := 82) rfl)) (by decide) (by decide)) (g := (mkF m 1 #[.val (.ref a0), .val (.ref a1), .val (.int (0 : Int32))] [(.ref a0)])) rfl (by rw [hml]; rfl) (Steps.refl _) (a := a0) (argsL := []) (rest := []) (lenOf own_pd0 rfl) rfl (by show 2 * 0 + _ ≤ _; exact Nat.le_of_eq rfl) (hb hby d29_1) (fun _ _ => ⟨rfl, e0, (by decide : 0 + 0 ≤ _), (by decide : 0 + 0 ≤ _)⟩)
  dsimp only [Pt.U, Pt.locs, Pt.cells, Pt.slots] at X1 l1 y1 z1 st1 hQ1
  subst l1 y1 z1
  obtain ⟨rfl, N1q, e1⟩ := hQ1
  have N1 := Fr.app N0 N1q
  refine OGo.of st1 ?_
  show OGo p e below _ (T1.setTop (mkF m 4 #[.val (.ref a0), .val (.ref a1), .val (.int (0 : Int32))] []))
  refine OGo.by (fun _ k => XS.aloadN X1.here hx rfl (hb hby d29_4) rfl rfl k) ?_
  show OGo p e below _ (T1.setTop (mkF m 5 #[.val (.ref a0), .val (.ref a1), .val (.int (0 : Int32))] [(.ref a0)]))
  refine OGo.by (fun _ k => XS.aloadN X1.here hx rfl (hb hby d29_5) rfl rfl k) ?_
  show OGo p e below _ (T1.setTop (mkF m 6 #[.val (.ref a0), .val (.ref a1), .val (.int (0 : Int32))] [(.ref a1), (.ref a0)]))
  obtain ⟨T2, h2, X2, e2, W2, st2⟩ := putF X1 hx hZ hown (host := "") (Or.inl (hw _ (List.mem_of_getElem? (i := 94) rfl))) Via.refl e1 F0 E0 (Or.inr ⟨(hw _ (List.mem_of_getElem? (i := 95) rfl)), rfl, hnm⟩) (hw _ (List.mem_of_getElem? (i := 214) rfl)) (ty := (.array (.object "java/lang/Object"))) (by decide) rfl rfl (g := (mkF m 6 #[.val (.ref a0), .val (.ref a1), .val (.int (0 : Int32))] [(.ref a1), (.ref a0)])) rfl rfl (hb hby d29_6)
  refine OGo.by st2 ?_
  have Fw2 := F0.same W2
  have N2 := Fr.snoc X2 N1 g_a0
  have K2 : Keep h0 h2 [a0] := ((Keep.refl h0 [a0])).wr W2 (Or.inl (List.mem_of_getElem? (i := 0) rfl))
  show OGo p e below _ (T2.setTop (mkF m 9 #[.val (.ref a0), .val (.ref a1), .val (.int (0 : Int32))] []))
  refine OGo.by (fun _ k => XS.aloadN X2.here hx rfl (hb hby d29_9) rfl rfl k) ?_
  show OGo p e below _ (T2.setTop (mkF m 10 #[.val (.ref a0), .val (.ref a1), .val (.int (0 : Int32))] [(.ref a0)]))
  refine OGo.by (fun _ k => XS.iloadN X2.here hx rfl (hb hby d29_10) rfl k) ?_
  show OGo p e below _ (T2.setTop (mkF m 11 #[.val (.ref a0), .val (.ref a1), .val (.int (0 : Int32))] [(.int (0 : Int32)), (.ref a0)]))
  have f3 : Exa Z h2 a0 "java/util/ImmutableCollections$ListN" := (E0.wr W2)
  have f4 : Fld Z h2 a0 "java/util/ImmutableCollections$ListN" "allowNulls" "Z" (.int (0 : Int32)) := (F1.other W2 (Or.inr (slot_ne (Or.inr (hw _ (List.mem_of_getElem? (i := 233) rfl))) (Or.inr (hw _ (List.mem_of_getElem? (i := 95) rfl))) (by decide) (t := .boolean) (t' := (.array (.object "java/lang/Object"))) (by decide) (by decide))))
  obtain ⟨T5, h5, X5, e5, W5, st5⟩ := putFN X2 hx hZ hown (hw _ (List.mem_of_getElem? (i := 232) rfl)) Via.refl e2 f4 f3 (Or.inr ⟨(hw _ (List.mem_of_getElem? (i := 233) rfl)), rfl, hnm⟩) (hw _ (List.mem_of_getElem? (i := 214) rfl)) (ty := .boolean) (v' := (.int (0 : Int32))) (by decide) rfl rfl (g := (mkF m 11 #[.val (.ref a0), .val (.ref a1), .val (.int (0 : Int32))] [(.int (0 : Int32)), (.ref a0)])) rfl rfl (hb hby d29_11)
  refine OGo.by st5 ?_
  have Fw5 := f4.same W5
  have N5 := Fr.snoc X5 N2 g_a0
  have K5 : Keep h0 h5 [a0] := (K2).wr W5 (Or.inl (List.mem_of_getElem? (i := 0) rfl))
  show OGo p e below _ (T5.setTop (mkF m 14 #[.val (.ref a0), .val (.ref a1), .val (.int (0 : Int32))] []))
  obtain ⟨fs, hr, hrun, hended, hW, hsame⟩ := X5.leave (v := none) (fun _ => rfl)
  refine OGo.ret (X5.returnOut hx Bd.returns (hb hby d29_14) hr) hrun hended ⟨_, _, rfl, ?_, ⟨_, rfl⟩, hW, hsame.mono (by decide) (by decide)⟩
  show Q_rm29 Z a0 a1 h0 n0 _ T5.heap _
  rw [e5]
  have f6 : Exa Z h5 a0 "java/util/ImmutableCollections$ListN" := (f3.wr W5)
  have f7 : Fld Z h5 a0 "java/util/ImmutableCollections$ListN" "elements" "[Ljava/lang/Object;" (.ref a1) := (Fw2.other W5 (Or.inr (slot_ne (Or.inr (hw _ (List.mem_of_getElem? (i := 95) rfl))) (Or.inr (hw _ (List.mem_of_getElem? (i := 233) rfl))) (by decide) (t := (.array (.object "java/lang/Object"))) (t' := .boolean) (by decide) (by decide))))
  exact ⟨rfl, N5, K5, f6, f7⟩
theorem d9_0 : decode jdk_38_method_9_code 0 = .ok (.aload_n 0, 1) := by decide +kernel
theorem d9_1 : decode jdk_38_method_9_code 1 = .ok (.getfield 48, 3) := by decide +kernel
theorem d9_4 : decode jdk_38_method_9_code 4 = .ok (.ifCond .ne 7, 3) := by decide +kernel
theorem d9_7 : decode jdk_38_method_9_code 7 = .ok (.iconst 1, 1) := by decide +kernel
theorem d9_8 : decode jdk_38_method_9_code 8 = .ok (.goto 4, 3) := by decide +kernel
theorem d9_12 : decode jdk_38_method_9_code 12 = .ok (.ireturn, 1) := by decide +kernel
theorem own_pn9 : plainName "java/util/ArrayList" = true := by first | (simp [plainName, overriddenIn]; done) | decide +kernel
theorem ef_rm_emp0 (m : MethodId) (a0 : Addr) : entryFrame m #[(.ref a0)] 1 = mkF m 0 #[.val (.ref a0)] [] := by first | (simp [entryFrame, mkF, argsToLocals, Value.category]; done) | rfl
def Q_rm_emp0 (Z : State) (a0 : Addr) (h0 : Heap) (n0 : Nat) (v : Option Value) (h : Heap) (L : List Loc) : Prop := v = some (.int (1 : Int32)) ∧ Fr n0 L ∧ h = h0
set_option maxRecDepth 65536 in
set_option maxHeartbeats 40000000 in
theorem rm_emp0 (l : Launch) (Z : State) (av0 : Array Value) (hw : ∀ d ∈ tables_1, d.before av0 Z = true) (ws : List Jvm.Cond) (a0 : Addr) (h0 : Heap) (n0 : Nat) (Z0 : n0 ≤ h0.size) (F0 : Fld Z h0 a0 "java/util/ArrayList" "size" "I" (.int (0 : Int32))) :
    MetFree l (⟨"java/util/ArrayList", "isEmpty", "()Z"⟩ : MethodName) (head1 (Jvm.Cond.code (⟨"java/util/ArrayList", "isEmpty", "()Z"⟩ : MethodName) jdk_38_method_9_code 1 (some .boolean) :: ws) ({ frames := 0, cells := 0, slots := 0, locals := 0 } : Room)) (fun a U => a = #[(.ref a0)] ∧ Z.Warmed39 U.vm ∧ U.heap = h0) (fun _ _ _ _ _ => True) (fun _ U o U' => ∃ v L, o = .returned v ∧ Q_rm_emp0 Z a0 h0 n0 v U'.heap L ∧ FrameEnd U o U' L ({ frames := 0, cells := 0, slots := 0, locals := 0 } : Room).cells ({ frames := 0, cells := 0, slots := 0, locals := 0 } : Room).slots) := by
  refine MetFree.of_bodySF (plainFor_of_name own_pn9) hisR ?_
  intro p e s m args below meth c s₁ Bd hml0 hP hK
  obtain ⟨rfl, hZ, hh⟩ := hP
  have hx := Bd.exec
  have hby := Bd.bytes
  have hml : c.maxLocals = 1 := hml0
  have hown : s.vm.findClass "java/util/ArrayList" = some m.cls := findClass_of_methodNamed Bd.named
  have hnm := (name_of_methodNamed Bd.named Bd.method).1
  have X0 : Stand p l e ({ frames := 0, cells := 0, slots := 0, locals := 0 } : Room) s m #[(.ref a0)] below meth c s₁ [] 0 0 := Stand.of_body Bd
  have e0 : s₁.heap = h0 := by rw [← hh, Bd.state]; rfl
  have N0 := Fr.nil n0
  refine OGo.by (P := fun U' o => ∃ v L, o = .returned v ∧ Q_rm_emp0 Z a0 h0 n0 v U'.heap L ∧ FrameEnd s o U' L ({ frames := 0, cells := 0, slots := 0, locals := 0 } : Room).cells ({ frames := 0, cells := 0, slots := 0, locals := 0 } : Room).slots) (fun T_ k_ => castTop (ef_rm_emp0 m a0) k_) ?_
  show OGo p e below _ (s₁.setTop (mkF m 0 #[.val (.ref a0)] []))
  refine OGo.by (fun _ k => XS.aloadN X0.here hx rfl (hb hby d9_0) rfl rfl k) ?_
  show OGo p e below _ (s₁.setTop (mkF m 1 #[.val (.ref a0)] [(.ref a0)]))
  obtain ⟨T1, X1, e1, st1⟩ := getF X0 hx hZ hown (host := "") (Or.inl (hw _ (List.mem_of_getElem? (i := 61) rfl))) Via.refl e0 F0 (g := (mkF m 1 #[.val (.ref a0)] [(.ref a0)])) rfl rfl (hb hby d9_1)
  refine OGo.by st1 ?_
  show OGo p e below _ (T1.setTop (mkF m 4 #[.val (.ref a0)] [(.int (0 : Int32))]))
  refine OGo.by (fun _ k => XS.ifNo X1.here hx rfl (hb hby d9_4) rfl ((if0 _ _).trans (teq (by decide : (0 : Int32) = (0 : Int32))).2) k) ?_
  show OGo p e below _ (T1.setTop (mkF m 7 #[.val (.ref a0)] []))
  refine OGo.by (fun _ k => XS.iconst X1.here hx rfl (hb hby d9_7) k) ?_
  show OGo p e below _ (T1.setTop (mkF m 8 #[.val (.ref a0)] [(.int (1 : Int32))]))
  refine OGo.by (fun _ k => XS.goto X1.here hx rfl (pc0 := 8) (pc' := 12) rfl (hb hby d9_8) (by decide) (by decide) k) ?_
  show OGo p e below _ (T1.setTop (mkF m 12 #[.val (.ref a0)] [(.int (1 : Int32))]))
  obtain ⟨fs, hr, hrun, hended, hW, hsame⟩ := X1.leave (v := some (.int (1 : Int32))) (fun h => by rw [Bd.returns] at h; cases h)
  refine OGo.ret (retN X1 hx (t := .boolean) Bd.returns (by simp) (hb hby d9_12) hr) hrun hended ⟨_, _, rfl, ?_, ⟨_, rfl⟩, hW, hsame.mono (by decide) (by decide)⟩
  show Q_rm_emp0 Z a0 h0 n0 _ T1.heap _
  rw [e1]
  exact ⟨rfl, N0, rfl⟩
theorem d8_0 : decode jdk_56_method_3_code 0 = .ok (.aload_n 0, 1) := by decide +kernel
theorem d8_1 : decode jdk_56_method_3_code 1 = .ok (.instanceof 10, 3) := by decide +kernel
theorem d8_4 : decode jdk_56_method_3_code 4 = .ok (.ifCond .ne 22, 3) := by decide +kernel
theorem d8_7 : decode jdk_56_method_3_code 7 = .ok (.aload_n 0, 1) := by decide +kernel
theorem d8_8 : decode jdk_56_method_3_code 8 = .ok (.instanceof 12, 3) := by decide +kernel
theorem d8_11 : decode jdk_56_method_3_code 11 = .ok (.ifCond .eq 20, 3) := by decide +kernel
theorem d8_31 : decode jdk_56_method_3_code 31 = .ok (.aload_n 0, 1) := by decide +kernel
theorem d8_32 : decode jdk_56_method_3_code 32 = .ok (.invokeinterface 20 1, 5) := by decide +kernel
theorem own_pd6 : parseMethodDescriptor "()Z" = some ⟨[], some .boolean⟩ := by decide +kernel
theorem d8_37 : decode jdk_56_method_3_code 37 = .ok (.ifCond .eq 7, 3) := by decide +kernel
theorem d8_40 : decode jdk_56_method_3_code 40 = .ok (.invokestatic 26, 3) := by decide +kernel
theorem own_pd7 : parseMethodDescriptor "()Ljava/util/List;" = some ⟨[], some (.object "java/util/List")⟩ := by decide +kernel
theorem d8_43 : decode jdk_56_method_3_code 43 = .ok (.areturn, 1) := by decide +kernel
theorem own_pn8 : plainName "java/util/ImmutableCollections" = true := by first | (simp [plainName, overriddenIn]; done) | decide +kernel
theorem ef_rm_lc0 (m : MethodId) (a0 : Addr) : entryFrame m #[(.ref a0)] 2 = mkF m 0 #[.val (.ref a0), .unset] [] := by first | (simp [entryFrame, mkF, argsToLocals, Value.category]; done) | rfl
def Q_rm_lc0 (Z : State) (a0 : Addr) (wl : Addr) (h0 : Heap) (n0 : Nat) (v : Option Value) (h : Heap) (L : List Loc) : Prop := v = some (.ref wl) ∧ Fr n0 L ∧ h = h0
set_option maxRecDepth 65536 in
set_option maxHeartbeats 40000000 in
theorem rm_lc0 (l : Launch) (Z : State) (av0 : Array Value) (hw : ∀ d ∈ tables_1, d.before av0 Z = true) (ws : List Jvm.Cond) (a0 : Addr) (wl : Addr) (h0 : Heap) (n0 : Nat) (Z0 : n0 ≤ h0.size) (E0 : Exa Z h0 a0 "java/util/ArrayList") (F0 : Fld Z h0 a0 "java/util/ArrayList" "size" "I" (.int (0 : Int32))) (O_0 : Old Z n0 h0) (S_l : Sta Z Z.heap "java/util/ImmutableCollections" "EMPTY_LIST" "Ljava/util/ImmutableCollections$ListN;" (.ref wl)) :
    MetFree l (⟨"java/util/ImmutableCollections", "listCopy", "(Ljava/util/Collection;)Ljava/util/List;"⟩ : MethodName) (head1 (Jvm.Cond.code (⟨"java/util/ImmutableCollections", "listCopy", "(Ljava/util/Collection;)Ljava/util/List;"⟩ : MethodName) jdk_56_method_3_code 2 (some (.object "java/util/List")) :: ws) ({ frames := 1, cells := 0, slots := 0, locals := 12 } : Room)) (fun a U => a = #[(.ref a0)] ∧ Z.Warmed39 U.vm ∧ U.heap = h0) (fun _ _ _ _ _ => True) (fun _ U o U' => ∃ v L, o = .returned v ∧ Q_rm_lc0 Z a0 wl h0 n0 v U'.heap L ∧ FrameEnd U o U' L ({ frames := 1, cells := 0, slots := 0, locals := 12 } : Room).cells ({ frames := 1, cells := 0, slots := 0, locals := 12 } : Room).slots) := by
  refine MetFree.of_bodySF (plainFor_of_name own_pn8) hisR ?_
  intro p e s m args below meth c s₁ Bd hml0 hP hK
  obtain ⟨rfl, hZ, hh⟩ := hP
  have hx := Bd.exec
  have hby := Bd.bytes
  have hml : c.maxLocals = 2 := hml0
  have hown : s.vm.findClass "java/util/ImmutableCollections" = some m.cls := findClass_of_methodNamed Bd.named
  have hnm := (name_of_methodNamed Bd.named Bd.method).1
  have X0 : Stand p l e ({ frames := 1, cells := 0, slots := 0, locals := 12 } : Room) s m #[(.ref a0)] below meth c s₁ [] 0 0 := Stand.of_body Bd
  have e0 : s₁.heap = h0 := by rw [← hh, Bd.state]; rfl
  have N0 := Fr.nil n0
  refine OGo.by (P := fun U' o => ∃ v L, o = .returned v ∧ Q_rm_lc0 Z a0 wl h0 n0 v U'.heap L ∧ FrameEnd s o U' L ({ frames := 1, cells := 0, slots := 0, locals := 12 } : Room).cells ({ frames := 1, cells := 0, slots := 0, locals := 12 } : Room).slots) (fun T_ k_ => castTop (ef_rm_lc0 m a0) k_) ?_
  show OGo p e below _ (s₁.setTop (mkF m 0 #[.val (.ref a0), .unset] []))
  refine OGo.by (fun _ k => XS.aloadN X0.here hx rfl (hb hby d8_0) rfl rfl k) ?_
  show OGo p e below _ (s₁.setTop (mkF m 1 #[.val (.ref a0), .unset] [(.ref a0)]))
  obtain ⟨T1, X1, e1, st1⟩ := instNo X0 hx hZ hown (hw _ (List.mem_of_getElem? (i := 46) rfl)) e0 E0 (own_nsNo (hw _ (List.mem_of_getElem? (i := 47) rfl)) (hw _ (List.mem_of_getElem? (i := 258) rfl)) (NS.step (hw _ (List.mem_of_getElem? (i := 47) rfl)) (NS.step (hw _ (List.mem_of_getElem? (i := 48) rfl)) (NS.step (hw _ (List.mem_of_getElem? (i := 49) rfl)) (own_nsRoot (hw _ (List.mem_of_getElem? (i := 50) rfl)) (hw _ (List.mem_of_getElem? (i := 258) rfl)) (by decide)) (by decide)) (by decide)) (by decide)) (by decide)) (g := (mkF m 1 #[.val (.ref a0), .unset] [(.ref a0)])) rfl rfl (hb hby d8_1)
  refine OGo.by st1 ?_
  show OGo p e below _ (T1.setTop (mkF m 4 #[.val (.ref a0), .unset] [(.int (0 : Int32))]))
  refine OGo.by (fun _ k => XS.ifNo X1.here hx rfl (hb hby d8_4) rfl ((if0 _ _).trans (teq (by decide : (0 : Int32) = (0 : Int32))).2) k) ?_
  show OGo p e below _ (T1.setTop (mkF m 7 #[.val (.ref a0), .unset] []))
  refine OGo.by (fun _ k => XS.aloadN X1.here hx rfl (hb hby d8_7) rfl rfl k) ?_
  show OGo p e below _ (T1.setTop (mkF m 8 #[.val (.ref a0), .unset] [(.ref a0)]))
  obtain ⟨T2, X2, e2, st2⟩ := instNo X1 hx hZ hown (hw _ (List.mem_of_getElem? (i := 51) rfl)) e1 E0 (own_nsNo (hw _ (List.mem_of_getElem? (i := 47) rfl)) (hw _ (List.mem_of_getElem? (i := 214) rfl)) (NS.step (hw _ (List.mem_of_getElem? (i := 47) rfl)) (NS.step (hw _ (List.mem_of_getElem? (i := 48) rfl)) (NS.step (hw _ (List.mem_of_getElem? (i := 49) rfl)) (own_nsRoot (hw _ (List.mem_of_getElem? (i := 50) rfl)) (hw _ (List.mem_of_getElem? (i := 214) rfl)) (by decide)) (by decide)) (by decide)) (by decide)) (by decide)) (g := (mkF m 8 #[.val (.ref a0), .unset] [(.ref a0)])) rfl rfl (hb hby d8_8)
  refine OGo.by st2 ?_
  show OGo p e below _ (T2.setTop (mkF m 11 #[.val (.ref a0), .unset] [(.int (0 : Int32))]))
  refine OGo.by (fun _ k => XS.ifYes X2.here hx rfl (pc0 := 11) (pc' := 31) rfl (hb hby d8_11) rfl ((if0 _ _).trans (teq (by decide : (0 : Int32) = (0 : Int32))).1) (by decide) (by decide) k) ?_
  show OGo p e below _ (T2.setTop (mkF m 31 #[.val (.ref a0), .unset] []))
  refine OGo.by (fun _ k => XS.aloadN X2.here hx rfl (hb hby d8_31) rfl rfl k) ?_
  show OGo p e below _ (T2.setTop (mkF m 32 #[.val (.ref a0), .unset] [(.ref a0)]))
  obtain ⟨cq3, kq3, q3a, q3b, q3c⟩ := isOf hZ e2 E0
  obtain ⟨_, _, ⟨T3, L3, k3, n3⟩, -, X3, ⟨Lc3, hQ3, l3, y3, z3⟩, st3⟩ := X2.interfaceBack hx (xi := (⟨"java/util/Collection", "isEmpty", "()Z"⟩ : MethodName)) (y := (⟨"java/util/ArrayList", "isEmpty", "()Z"⟩ : MethodName)) hown (mvT hZ (hw _ (List.mem_of_getElem? (i := 52) rfl))) (mvT hZ (hw _ (List.mem_of_getElem? (i := 53) rfl))) (mvT hZ (hw _ (List.mem_of_getElem? (i := 54) rfl))) (mvT hZ (hw _ (List.mem_of_getElem? (i := 55) rfl))) (mvT hZ (hw _ (List.mem_of_getElem? (i := 56) rfl))) (mvT hZ (hw _ (List.mem_of_getElem? (i := 57) rfl))) (mvT hZ (hw _ (List.mem_of_getElem? (i := 58) rfl))) (mvT hZ (hw _ (List.mem_of_getElem? (i := 59) rfl))) (by decide) (backOf (W := 0) (rm_emp0 l Z av0 hw [] a0 h0 n0 Z0 F0) hZ (hw _ (List.mem_of_getElem? (i := 60) rfl)) (hw _ (List.mem_of_getElem? (i := 2) rfl)) (by decide) (by decide)) q3a q3b q3c (g := (mkF m 32 #[.val (.ref a0), .unset] [(.ref a0)])) rfl (by rw [hml]; rfl) (Steps.refl _) (argsL := []) (rest := []) (lenOf own_pd6 rfl) rfl (by show 2 * 0 + _ ≤ _; exact Nat.le_of_eq rfl) (hb hby d8_32) (fun _ _ => ⟨rfl, e2, (by decide : 0 + 0 ≤ _), (by decide : 0 + 0 ≤ _)⟩)
  dsimp only [Pt.U, Pt.locs, Pt.cells, Pt.slots] at X3 l3 y3 z3 st3 hQ3
  subst l3 y3 z3
  obtain ⟨rfl, N3q, e3⟩ := hQ3
  have N3 := Fr.app N0 N3q
  refine OGo.of st3 ?_
  show OGo p e below _ (T3.setTop (mkF m 37 #[.val (.ref a0), .unset] [(.int (1 : Int32))]))
  refine OGo.by (fun _ k => XS.ifNo X3.here hx rfl (hb hby d8_37) rfl ((if0 _ _).trans (feq (by decide : ¬ ((1 : Int32) = (0 : Int32)))).1) k) ?_
  show OGo p e below _ (T3.setTop (mkF m 40 #[.val (.ref a0), .unset] []))
  obtain ⟨_, _, ⟨T4, L4, k4, n4⟩, -, X4, ⟨Lc4, hQ4, l4, y4, z4⟩, st4⟩ := Jvm.LawKit.callS X3 hx (y := (⟨"java/util/List", "of", "()Ljava/util/List;"⟩ : MethodName)) hown (mvT hZ (hw _ (List.mem_of_getElem? (i := 63) rfl))) (mvT hZ (hw _ (List.mem_of_getElem? (i := 64) rfl))) (mvT hZ (hw _ (List.mem_of_getElem? (i := 40) rfl))) (mvT hZ (hw _ (List.mem_of_getElem? (i := 65) rfl))) (by decide) (backOf (W := 0) (rm_of0 l Z av0 hw [] wl h0 n0 Z0 O_0 S_l) hZ (hw _ (List.mem_of_getElem? (i := 65) rfl)) (hw _ (List.mem_of_getElem? (i := 40) rfl)) (by decide) (by decide)) (g := (mkF m 40 #[.val (.ref a0), .unset] [])) rfl (by rw [hml]; rfl) (argsL := []) (rest := []) (lenOf own_pd7 rfl) rfl (by show 2 * 0 + _ ≤ _; exact Nat.le_of_eq rfl) (hb hby d8_40) (fun _ _ => ⟨rfl, e3, (by decide : 0 + 0 ≤ _), (by decide : 0 + 0 ≤ _)⟩)
  dsimp only [Pt.U, Pt.locs, Pt.cells, Pt.slots] at X4 l4 y4 z4 st4 hQ4
  subst l4 y4 z4
  obtain ⟨rfl, N4q, e4⟩ := hQ4
  have N4 := Fr.app N3 N4q
  refine OGo.by st4 ?_
  show OGo p e below _ (T4.setTop (mkF m 43 #[.val (.ref a0), .unset] [(.ref wl)]))
  obtain ⟨fs, hr, hrun, hended, hW, hsame⟩ := X4.leave (v := some (.ref wl)) (fun h => by rw [Bd.returns] at h; cases h)
  refine OGo.ret (retOut X4 hx Bd.returns rfl (Or.inr (Or.inr (Or.inr (Or.inr ⟨rfl, rfl, rfl⟩)))) (hb hby d8_43) hr) hrun hended ⟨_, _, rfl, ?_, ⟨_, rfl⟩, hW, hsame.mono (by decide) (by decide)⟩
  show Q_rm_lc0 Z a0 wl h0 n0 _ T4.heap _
  rw [e4]
  exact ⟨rfl, N4, rfl⟩
theorem d7_0 : decode jdk_40_method_48_code 0 = .ok (.aload_n 0, 1) := by decide +kernel
theorem d7_1 : decode jdk_40_method_48_code 1 = .ok (.invokestatic 112, 3) := by decide +kernel
theorem own_pd8 : parseMethodDescriptor "(Ljava/util/Collection;)Ljava/util/List;" = some ⟨[(.object "java/util/Collection")], some (.object "java/util/List")⟩ := by decide +kernel
theorem d7_4 : decode jdk_40_method_48_code 4 = .ok (.areturn, 1) := by decide +kernel
theorem own_pn7 : plainName "java/util/List" = true := by first | (simp [plainName, overriddenIn]; done) | decide +kernel
theorem ef_rm_co0 (m : MethodId) (a0 : Addr) : entryFrame m #[(.ref a0)] 1 = mkF m 0 #[.val (.ref a0)] [] := by first | (simp [entryFrame, mkF, argsToLocals, Value.category]; done) | rfl
def Q_rm_co0 (Z : State) (a0 : Addr) (wl : Addr) (h0 : Heap) (n0 : Nat) (v : Option Value) (h : Heap) (L : List Loc) : Prop := v = some (.ref wl) ∧ Fr n0 L ∧ h = h0
set_option maxRecDepth 65536 in
set_option maxHeartbeats 40000000 in
theorem rm_co0 (l : Launch) (Z : State) (av0 : Array Value) (hw : ∀ d ∈ tables_1, d.before av0 Z = true) (ws : List Jvm.Cond) (a0 : Addr) (wl : Addr) (h0 : Heap) (n0 : Nat) (Z0 : n0 ≤ h0.size) (E0 : Exa Z h0 a0 "java/util/ArrayList") (F0 : Fld Z h0 a0 "java/util/ArrayList" "size" "I" (.int (0 : Int32))) (O_0 : Old Z n0 h0) (S_l : Sta Z Z.heap "java/util/ImmutableCollections" "EMPTY_LIST" "Ljava/util/ImmutableCollections$ListN;" (.ref wl)) :
    MetFree l (⟨"java/util/List", "copyOf", "(Ljava/util/Collection;)Ljava/util/List;"⟩ : MethodName) (head1 (Jvm.Cond.code (⟨"java/util/List", "copyOf", "(Ljava/util/Collection;)Ljava/util/List;"⟩ : MethodName) jdk_40_method_48_code 1 (some (.object "java/util/List")) :: ws) ({ frames := 2, cells := 0, slots := 0, locals := 25 } : Room)) (fun a U => a = #[(.ref a0)] ∧ Z.Warmed39 U.vm ∧ U.heap = h0) (fun _ _ _ _ _ => True) (fun _ U o U' => ∃ v L, o = .returned v ∧ Q_rm_co0 Z a0 wl h0 n0 v U'.heap L ∧ FrameEnd U o U' L ({ frames := 2, cells := 0, slots := 0, locals := 25 } : Room).cells ({ frames := 2, cells := 0, slots := 0, locals := 25 } : Room).slots) := by
  refine MetFree.of_bodySF (plainFor_of_name own_pn7) hisR ?_
  intro p e s m args below meth c s₁ Bd hml0 hP hK
  obtain ⟨rfl, hZ, hh⟩ := hP
  have hx := Bd.exec
  have hby := Bd.bytes
  have hml : c.maxLocals = 1 := hml0
  have hown : s.vm.findClass "java/util/List" = some m.cls := findClass_of_methodNamed Bd.named
  have hnm := (name_of_methodNamed Bd.named Bd.method).1
  have X0 : Stand p l e ({ frames := 2, cells := 0, slots := 0, locals := 25 } : Room) s m #[(.ref a0)] below meth c s₁ [] 0 0 := Stand.of_body Bd
  have e0 : s₁.heap = h0 := by rw [← hh, Bd.state]; rfl
  have N0 := Fr.nil n0
  refine OGo.by (P := fun U' o => ∃ v L, o = .returned v ∧ Q_rm_co0 Z a0 wl h0 n0 v U'.heap L ∧ FrameEnd s o U' L ({ frames := 2, cells := 0, slots := 0, locals := 25 } : Room).cells ({ frames := 2, cells := 0, slots := 0, locals := 25 } : Room).slots) (fun T_ k_ => castTop (ef_rm_co0 m a0) k_) ?_
  show OGo p e below _ (s₁.setTop (mkF m 0 #[.val (.ref a0)] []))
  refine OGo.by (fun _ k => XS.aloadN X0.here hx rfl (hb hby d7_0) rfl rfl k) ?_
  show OGo p e below _ (s₁.setTop (mkF m 1 #[.val (.ref a0)] [(.ref a0)]))
  obtain ⟨_, _, ⟨T1, L1, k1, n1⟩, -, X1, ⟨Lc1, hQ1, l1, y1, z1⟩, st1⟩ := Jvm.LawKit.callS X0 hx (y := (⟨"java/util/ImmutableCollections", "listCopy", "(Ljava/util/Collection;)Ljava/util/List;"⟩ : MethodName)) hown (mvT hZ (hw _ (List.mem_of_getElem? (i := 42) rfl))) (mvT hZ (hw _ (List.mem_of_getElem? (i := 43) rfl))) (mvT hZ (hw _ (List.mem_of_getElem? (i := 44) rfl))) (mvT hZ (hw _ (List.mem_of_getElem? (i := 45) rfl))) (by decide) (backOf (W := 0) (rm_lc0 l Z av0 hw [] a0 wl h0 n0 Z0 E0 F0 O_0 S_l) hZ (hw _ (List.mem_of_getElem? (i := 45) rfl)) (hw _ (List.mem_of_getElem? (i := 44) rfl)) (by decide) (by decide)) (g := (mkF m 1 #[.val (.ref a0)] [(.ref a0)])) rfl (by rw [hml]; rfl) (argsL := [(.ref a0)]) (rest := []) (lenOf own_pd8 rfl) rfl (by show 2 * 0 + _ ≤ _; exact Nat.le_of_eq rfl) (hb hby d7_1) (fun _ _ => ⟨rfl, e0, (by decide : 0 + 0 ≤ _), (by decide : 0 + 0 ≤ _)⟩)
  dsimp only [Pt.U, Pt.locs, Pt.cells, Pt.slots] at X1 l1 y1 z1 st1 hQ1
  subst l1 y1 z1
  obtain ⟨rfl, N1q, e1⟩ := hQ1
  have N1 := Fr.app N0 N1q
  refine OGo.by st1 ?_
  show OGo p e below _ (T1.setTop (mkF m 4 #[.val (.ref a0)] [(.ref wl)]))
  obtain ⟨fs, hr, hrun, hended, hW, hsame⟩ := X1.leave (v := some (.ref wl)) (fun h => by rw [Bd.returns] at h; cases h)
  refine OGo.ret (retOut X1 hx Bd.returns rfl (Or.inr (Or.inr (Or.inr (Or.inr ⟨rfl, rfl, rfl⟩)))) (hb hby d7_4) hr) hrun hended ⟨_, _, rfl, ?_, ⟨_, rfl⟩, hW, hsame.mono (by decide) (by decide)⟩
  show Q_rm_co0 Z a0 wl h0 n0 _ T1.heap _
  rw [e1]
  exact ⟨rfl, N1, rfl⟩
theorem d5_0 : decode prog_7_method_1_code 0 = .ok (.aload_n 0, 1) := by decide +kernel
theorem d5_1 : decode prog_7_method_1_code 1 = .ok (.invokespecial 1, 3) := by decide +kernel
theorem d5_4 : decode prog_7_method_1_code 4 = .ok (.aload_n 1, 1) := by decide +kernel
theorem d5_5 : decode prog_7_method_1_code 5 = .ok (.invokestatic 7, 3) := by decide +kernel
theorem d5_8 : decode prog_7_method_1_code 8 = .ok (.astore_n 1, 1) := by decide +kernel
theorem d5_9 : decode prog_7_method_1_code 9 = .ok (.aload_n 0, 1) := by decide +kernel
theorem d5_10 : decode prog_7_method_1_code 10 = .ok (.aload_n 1, 1) := by decide +kernel
theorem d5_11 : decode prog_7_method_1_code 11 = .ok (.putfield 13, 3) := by decide +kernel
theorem d5_14 : decode prog_7_method_1_code 14 = .ok (.return_, 1) := by decide +kernel
theorem own_pn5 : plainName "com/example/kept_inbox/keptinbox/Unread" = true := by first | (simp [plainName, overriddenIn]; done) | decide +kernel
theorem ef_rm_un0 (m : MethodId) (a0 : Addr) (a1 : Addr) : entryFrame m #[(.ref a0), (.ref a1)] 2 = mkF m 0 #[.val (.ref a0), .val (.ref a1)] [] := by first | (simp [entryFrame, mkF, argsToLocals, Value.category]; done) | rfl
def Q_rm_un0 (Z : State) (a0 : Addr) (a1 : Addr) (wl : Addr) (h0 : Heap) (n0 : Nat) (v : Option Value) (h : Heap) (L : List Loc) : Prop := v = none ∧ Fr n0 L ∧ Keep h0 h [a0] ∧ (Exa Z h a0 "com/example/kept_inbox/keptinbox/Unread") ∧ (Fld Z h a0 "com/example/kept_inbox/keptinbox/Unread" "conversations" "Ljava/util/List;" (.ref wl))
set_option maxRecDepth 65536 in
set_option maxHeartbeats 40000000 in
theorem rm_un0 (l : Launch) (Z : State) (av0 : Array Value) (hw : ∀ d ∈ tables_1, d.before av0 Z = true) (ws : List Jvm.Cond) (a0 : Addr) (a1 : Addr) (wl : Addr) (h0 : Heap) (n0 : Nat) (Z0 : n0 ≤ h0.size) (E0 : Exa Z h0 a1 "java/util/ArrayList") (F0 : Fld Z h0 a1 "java/util/ArrayList" "size" "I" (.int (0 : Int32))) (O_0 : Old Z n0 h0) (S_l : Sta Z Z.heap "java/util/ImmutableCollections" "EMPTY_LIST" "Ljava/util/ImmutableCollections$ListN;" (.ref wl)) (E1 : Exa Z h0 a0 "com/example/kept_inbox/keptinbox/Unread") (F1 : Fld Z h0 a0 "com/example/kept_inbox/keptinbox/Unread" "conversations" "Ljava/util/List;" .null) (g_a0 : n0 ≤ a0) :
    MetFree l (⟨"com/example/kept_inbox/keptinbox/Unread", "<init>", "(Ljava/util/List;)V"⟩ : MethodName) (head1 (Jvm.Cond.code (⟨"com/example/kept_inbox/keptinbox/Unread", "<init>", "(Ljava/util/List;)V"⟩ : MethodName) prog_7_method_1_code 2 none :: ws) ({ frames := 3, cells := 0, slots := 0, locals := 37 } : Room)) (fun a U => a = #[(.ref a0), (.ref a1)] ∧ Z.Warmed39 U.vm ∧ U.heap = h0) (fun _ _ _ _ _ => True) (fun _ U o U' => ∃ v L, o = .returned v ∧ Q_rm_un0 Z a0 a1 wl h0 n0 v U'.heap L ∧ FrameEnd U o U' L ({ frames := 3, cells := 0, slots := 0, locals := 37 } : Room).cells ({ frames := 3, cells := 0, slots := 0, locals := 37 } : Room).slots) := by
  refine MetFree.of_bodySF (plainFor_of_name own_pn5) hisR ?_
  intro p e s m args below meth c s₁ Bd hml0 hP hK
  obtain ⟨rfl, hZ, hh⟩ := hP
  have hx := Bd.exec
  have hby := Bd.bytes
  have hml : c.maxLocals = 2 := hml0
  have hown : s.vm.findClass "com/example/kept_inbox/keptinbox/Unread" = some m.cls := findClass_of_methodNamed Bd.named
  have hnm := (name_of_methodNamed Bd.named Bd.method).1
  have X0 : Stand p l e ({ frames := 3, cells := 0, slots := 0, locals := 37 } : Room) s m #[(.ref a0), (.ref a1)] below meth c s₁ [] 0 0 := Stand.of_body Bd
  have e0 : s₁.heap = h0 := by rw [← hh, Bd.state]; rfl
  have N0 := Fr.nil n0
  refine OGo.by (P := fun U' o => ∃ v L, o = .returned v ∧ Q_rm_un0 Z a0 a1 wl h0 n0 v U'.heap L ∧ FrameEnd s o U' L ({ frames := 3, cells := 0, slots := 0, locals := 37 } : Room).cells ({ frames := 3, cells := 0, slots := 0, locals := 37 } : Room).slots) (fun T_ k_ => castTop (ef_rm_un0 m a0 a1) k_) ?_
  show OGo p e below _ (s₁.setTop (mkF m 0 #[.val (.ref a0), .val (.ref a1)] []))
  refine OGo.by (fun _ k => XS.aloadN X0.here hx rfl (hb hby d5_0) rfl rfl k) ?_
  show OGo p e below _ (s₁.setTop (mkF m 1 #[.val (.ref a0), .val (.ref a1)] [(.ref a0)]))
  obtain ⟨_, _, ⟨T1, L1, k1, n1⟩, -, X1, ⟨Lc1, hQ1, l1, y1, z1⟩, st1⟩ := X0.specialBack hx (y := (⟨"java/lang/Record", "<init>", "()V"⟩ : MethodName)) rfl hown (mvT hZ (hw _ (List.mem_of_getElem? (i := 32) rfl))) (mvT hZ (hw _ (List.mem_of_getElem? (i := 33) rfl))) (mvT hZ (hw _ (List.mem_of_getElem? (i := 36) rfl))) (by decide) (backOf (W := 0) (rm6 l Z av0 hw [] a0 h0 n0 Z0) hZ (hw _ (List.mem_of_getElem? (i := 36) rfl)) (hw _ (List.mem_of_getElem? (i := 35) rfl)) (by decide) (by decide)) (g := (mkF m 1 #[.val (.ref a0), .val (.ref a1)] [(.ref a0)])) rfl (by rw [hml]; rfl) (Steps.refl _) (a := a0) (argsL := []) (rest := []) (lenOf own_pd0 rfl) rfl (by show 2 * 0 + _ ≤ _; exact Nat.le_of_eq rfl) (hb hby d5_1) (fun _ _ => ⟨rfl, e0, (by decide : 0 + 0 ≤ _), (by decide : 0 + 0 ≤ _)⟩)
  dsimp only [Pt.U, Pt.locs, Pt.cells, Pt.slots] at X1 l1 y1 z1 st1 hQ1
  subst l1 y1 z1
  obtain ⟨rfl, N1q, e1⟩ := hQ1
  have N1 := Fr.app N0 N1q
  refine OGo.of st1 ?_
  show OGo p e below _ (T1.setTop (mkF m 4 #[.val (.ref a0), .val (.ref a1)] []))
  refine OGo.by (fun _ k => XS.aloadN X1.here hx rfl (hb hby d5_4) rfl rfl k) ?_
  show OGo p e below _ (T1.setTop (mkF m 5 #[.val (.ref a0), .val (.ref a1)] [(.ref a1)]))
  obtain ⟨_, _, ⟨T2, L2, k2, n2⟩, -, X2, ⟨Lc2, hQ2, l2, y2, z2⟩, st2⟩ := Jvm.LawKit.callS X1 hx (y := (⟨"java/util/List", "copyOf", "(Ljava/util/Collection;)Ljava/util/List;"⟩ : MethodName)) hown (mvT hZ (hw _ (List.mem_of_getElem? (i := 38) rfl))) (mvT hZ (hw _ (List.mem_of_getElem? (i := 39) rfl))) (mvT hZ (hw _ (List.mem_of_getElem? (i := 40) rfl))) (mvT hZ (hw _ (List.mem_of_getElem? (i := 41) rfl))) (by decide) (backOf (W := 0) (rm_co0 l Z av0 hw [] a1 wl h0 n0 Z0 E0 F0 O_0 S_l) hZ (hw _ (List.mem_of_getElem? (i := 41) rfl)) (hw _ (List.mem_of_getElem? (i := 40) rfl)) (by decide) (by decide)) (g := (mkF m 5 #[.val (.ref a0), .val (.ref a1)] [(.ref a1)])) rfl (by rw [hml]; rfl) (argsL := [(.ref a1)]) (rest := []) (lenOf own_pd8 rfl) rfl (by show 2 * 0 + _ ≤ _; exact Nat.le_of_eq rfl) (hb hby d5_5) (fun _ _ => ⟨rfl, e1, (by decide : 0 + 0 ≤ _), (by decide : 0 + 0 ≤ _)⟩)
  dsimp only [Pt.U, Pt.locs, Pt.cells, Pt.slots] at X2 l2 y2 z2 st2 hQ2
  subst l2 y2 z2
  obtain ⟨rfl, N2q, e2⟩ := hQ2
  have N2 := Fr.app N1 N2q
  refine OGo.by st2 ?_
  show OGo p e below _ (T2.setTop (mkF m 8 #[.val (.ref a0), .val (.ref a1)] [(.ref wl)]))
  refine OGo.by (fun _ k => XS.astoreN X2.here hx rfl (hb hby d5_8) rfl rfl (l' := #[.val (.ref a0), .val (.ref wl)]) rfl k) ?_
  show OGo p e below _ (T2.setTop (mkF m 9 #[.val (.ref a0), .val (.ref wl)] []))
  refine OGo.by (fun _ k => XS.aloadN X2.here hx rfl (hb hby d5_9) rfl rfl k) ?_
  show OGo p e below _ (T2.setTop (mkF m 10 #[.val (.ref a0), .val (.ref wl)] [(.ref a0)]))
  refine OGo.by (fun _ k => XS.aloadN X2.here hx rfl (hb hby d5_10) rfl rfl k) ?_
  show OGo p e below _ (T2.setTop (mkF m 11 #[.val (.ref a0), .val (.ref wl)] [(.ref wl), (.ref a0)]))
  obtain ⟨T3, h3, X3, e3, W3, st3⟩ := putF X2 hx hZ hown (host := "") (Or.inl (hw _ (List.mem_of_getElem? (i := 67) rfl))) Via.refl e2 F1 E1 (Or.inr ⟨(hw _ (List.mem_of_getElem? (i := 68) rfl)), rfl, hnm⟩) (hw _ (List.mem_of_getElem? (i := 27) rfl)) (ty := (.object "java/util/List")) (by decide) rfl rfl (g := (mkF m 11 #[.val (.ref a0), .val (.ref wl)] [(.ref wl), (.ref a0)])) rfl rfl (hb hby d5_11)
  refine OGo.by st3 ?_
  have Fw3 := F1.same W3
  have N3 := Fr.snoc X3 N2 g_a0
  have K3 : Keep h0 h3 [a0] := ((Keep.refl h0 [a0])).wr W3 (Or.inl (List.mem_of_getElem? (i := 0) rfl))
  show OGo p e below _ (T3.setTop (mkF m 14 #[.val (.ref a0), .val (.ref wl)] []))
  obtain ⟨fs, hr, hrun, hended, hW, hsame⟩ := X3.leave (v := none) (fun _ => rfl)
  refine OGo.ret (X3.returnOut hx Bd.returns (hb hby d5_14) hr) hrun hended ⟨_, _, rfl, ?_, ⟨_, rfl⟩, hW, hsame.mono (by decide) (by decide)⟩
  show Q_rm_un0 Z a0 a1 wl h0 n0 _ T3.heap _
  rw [e3]
  have f4 : Exa Z h3 a0 "com/example/kept_inbox/keptinbox/Unread" := (E1.wr W3)
  exact ⟨rfl, N3, K3, f4, Fw3⟩
theorem d9_11 : decode jdk_38_method_9_code 11 = .ok (.iconst 0, 1) := by decide +kernel
theorem ef_rm_emp1 (m : MethodId) (a0 : Addr) : entryFrame m #[(.ref a0)] 1 = mkF m 0 #[.val (.ref a0)] [] := by first | (simp [entryFrame, mkF, argsToLocals, Value.category]; done) | rfl
def Q_rm_emp1 (Z : State) (a0 : Addr) (h0 : Heap) (n0 : Nat) (v : Option Value) (h : Heap) (L : List Loc) : Prop := v = some (.int (0 : Int32)) ∧ Fr n0 L ∧ h = h0
set_option maxRecDepth 65536 in
set_option maxHeartbeats 40000000 in
theorem rm_emp1 (l : Launch) (Z : State) (av0 : Array Value) (hw : ∀ d ∈ tables_1, d.before av0 Z = true) (ws : List Jvm.Cond) (a0 : Addr) (h0 : Heap) (n0 : Nat) (Z0 : n0 ≤ h0.size) (F0 : Fld Z h0 a0 "java/util/ArrayList" "size" "I" (.int (1 : Int32))) :
    MetFree l (⟨"java/util/ArrayList", "isEmpty", "()Z"⟩ : MethodName) (head1 (Jvm.Cond.code (⟨"java/util/ArrayList", "isEmpty", "()Z"⟩ : MethodName) jdk_38_method_9_code 1 (some .boolean) :: ws) ({ frames := 0, cells := 0, slots := 0, locals := 0 } : Room)) (fun a U => a = #[(.ref a0)] ∧ Z.Warmed39 U.vm ∧ U.heap = h0) (fun _ _ _ _ _ => True) (fun _ U o U' => ∃ v L, o = .returned v ∧ Q_rm_emp1 Z a0 h0 n0 v U'.heap L ∧ FrameEnd U o U' L ({ frames := 0, cells := 0, slots := 0, locals := 0 } : Room).cells ({ frames := 0, cells := 0, slots := 0, locals := 0 } : Room).slots) := by
  refine MetFree.of_bodySF (plainFor_of_name own_pn9) hisR ?_
  intro p e s m args below meth c s₁ Bd hml0 hP hK
  obtain ⟨rfl, hZ, hh⟩ := hP
  have hx := Bd.exec
  have hby := Bd.bytes
  have hml : c.maxLocals = 1 := hml0
  have hown : s.vm.findClass "java/util/ArrayList" = some m.cls := findClass_of_methodNamed Bd.named
  have hnm := (name_of_methodNamed Bd.named Bd.method).1
  have X0 : Stand p l e ({ frames := 0, cells := 0, slots := 0, locals := 0 } : Room) s m #[(.ref a0)] below meth c s₁ [] 0 0 := Stand.of_body Bd
  have e0 : s₁.heap = h0 := by rw [← hh, Bd.state]; rfl
  have N0 := Fr.nil n0
  refine OGo.by (P := fun U' o => ∃ v L, o = .returned v ∧ Q_rm_emp1 Z a0 h0 n0 v U'.heap L ∧ FrameEnd s o U' L ({ frames := 0, cells := 0, slots := 0, locals := 0 } : Room).cells ({ frames := 0, cells := 0, slots := 0, locals := 0 } : Room).slots) (fun T_ k_ => castTop (ef_rm_emp1 m a0) k_) ?_
  show OGo p e below _ (s₁.setTop (mkF m 0 #[.val (.ref a0)] []))
  refine OGo.by (fun _ k => XS.aloadN X0.here hx rfl (hb hby d9_0) rfl rfl k) ?_
  show OGo p e below _ (s₁.setTop (mkF m 1 #[.val (.ref a0)] [(.ref a0)]))
  obtain ⟨T1, X1, e1, st1⟩ := getF X0 hx hZ hown (host := "") (Or.inl (hw _ (List.mem_of_getElem? (i := 61) rfl))) Via.refl e0 F0 (g := (mkF m 1 #[.val (.ref a0)] [(.ref a0)])) rfl rfl (hb hby d9_1)
  refine OGo.by st1 ?_
  show OGo p e below _ (T1.setTop (mkF m 4 #[.val (.ref a0)] [(.int (1 : Int32))]))
  refine OGo.by (fun _ k => XS.ifYes X1.here hx rfl (pc0 := 4) (pc' := 11) rfl (hb hby d9_4) rfl ((if0 _ _).trans (feq (by decide : ¬ ((1 : Int32) = (0 : Int32)))).2) (by decide) (by decide) k) ?_
  show OGo p e below _ (T1.setTop (mkF m 11 #[.val (.ref a0)] []))
  refine OGo.by (fun _ k => XS.iconst X1.here hx rfl (hb hby d9_11) k) ?_
  show OGo p e below _ (T1.setTop (mkF m 12 #[.val (.ref a0)] [(.int (0 : Int32))]))
  obtain ⟨fs, hr, hrun, hended, hW, hsame⟩ := X1.leave (v := some (.int (0 : Int32))) (fun h => by rw [Bd.returns] at h; cases h)
  refine OGo.ret (retN X1 hx (t := .boolean) Bd.returns (by simp) (hb hby d9_12) hr) hrun hended ⟨_, _, rfl, ?_, ⟨_, rfl⟩, hW, hsame.mono (by decide) (by decide)⟩
  show Q_rm_emp1 Z a0 h0 n0 _ T1.heap _
  rw [e1]
  exact ⟨rfl, N0, rfl⟩
theorem d25_0 : decode jdk_29_method_69_code 0 = .ok (.iload_n 0, 1) := by decide +kernel
theorem d25_1 : decode jdk_29_method_69_code 1 = .ok (.iload_n 1, 1) := by decide +kernel
theorem d25_2 : decode jdk_29_method_69_code 2 = .ok (.if_icmp .gt 7, 3) := by decide +kernel
theorem d25_9 : decode jdk_29_method_69_code 9 = .ok (.iload_n 1, 1) := by decide +kernel
theorem d25_10 : decode jdk_29_method_69_code 10 = .ok (.ireturn, 1) := by decide +kernel
theorem ef_rm_min1 (m : MethodId)  : entryFrame m #[(.int (10 : Int32)), (.int (1 : Int32))] 2 = mkF m 0 #[.val (.int (10 : Int32)), .val (.int (1 : Int32))] [] := by first | (simp [entryFrame, mkF, argsToLocals, Value.category]; done) | rfl
def Q_rm_min1 (Z : State)  (h0 : Heap) (n0 : Nat) (v : Option Value) (h : Heap) (L : List Loc) : Prop := v = some (.int (1 : Int32)) ∧ Fr n0 L ∧ h = h0
set_option maxRecDepth 65536 in
set_option maxHeartbeats 40000000 in
theorem rm_min1 (l : Launch) (Z : State) (av0 : Array Value) (hw : ∀ d ∈ tables_1, d.before av0 Z = true) (ws : List Jvm.Cond)  (h0 : Heap) (n0 : Nat) (Z0 : n0 ≤ h0.size) :
    MetFree l (⟨"java/lang/Math", "min", "(II)I"⟩ : MethodName) (head1 (Jvm.Cond.code (⟨"java/lang/Math", "min", "(II)I"⟩ : MethodName) jdk_29_method_69_code 2 (some .int) :: ws) ({ frames := 0, cells := 0, slots := 0, locals := 0 } : Room)) (fun a U => a = #[(.int (10 : Int32)), (.int (1 : Int32))] ∧ Z.Warmed39 U.vm ∧ U.heap = h0) (fun _ _ _ _ _ => True) (fun _ U o U' => ∃ v L, o = .returned v ∧ Q_rm_min1 Z  h0 n0 v U'.heap L ∧ FrameEnd U o U' L ({ frames := 0, cells := 0, slots := 0, locals := 0 } : Room).cells ({ frames := 0, cells := 0, slots := 0, locals := 0 } : Room).slots) := by
  refine MetFree.of_bodySF (Jvm.Free.JP.mathPlain rfl (by decide +kernel)) hisR ?_
  intro p e s m args below meth c s₁ Bd hml0 hP hK
  obtain ⟨rfl, hZ, hh⟩ := hP
  have hx := Bd.exec
  have hby := Bd.bytes
  have hml : c.maxLocals = 2 := hml0
  have hown : s.vm.findClass "java/lang/Math" = some m.cls := findClass_of_methodNamed Bd.named
  have hnm := (name_of_methodNamed Bd.named Bd.method).1
  have X0 : Stand p l e ({ frames := 0, cells := 0, slots := 0, locals := 0 } : Room) s m #[(.int (10 : Int32)), (.int (1 : Int32))] below meth c s₁ [] 0 0 := Stand.of_body Bd
  have e0 : s₁.heap = h0 := by rw [← hh, Bd.state]; rfl
  have N0 := Fr.nil n0
  refine OGo.by (P := fun U' o => ∃ v L, o = .returned v ∧ Q_rm_min1 Z  h0 n0 v U'.heap L ∧ FrameEnd s o U' L ({ frames := 0, cells := 0, slots := 0, locals := 0 } : Room).cells ({ frames := 0, cells := 0, slots := 0, locals := 0 } : Room).slots) (fun T_ k_ => castTop (ef_rm_min1 m ) k_) ?_
  show OGo p e below _ (s₁.setTop (mkF m 0 #[.val (.int (10 : Int32)), .val (.int (1 : Int32))] []))
  refine OGo.by (fun _ k => XS.iloadN X0.here hx rfl (hb hby d25_0) rfl k) ?_
  show OGo p e below _ (s₁.setTop (mkF m 1 #[.val (.int (10 : Int32)), .val (.int (1 : Int32))] [(.int (10 : Int32))]))
  refine OGo.by (fun _ k => XS.iloadN X0.here hx rfl (hb hby d25_1) rfl k) ?_
  show OGo p e below _ (s₁.setTop (mkF m 2 #[.val (.int (10 : Int32)), .val (.int (1 : Int32))] [(.int (1 : Int32)), (.int (10 : Int32))]))
  refine OGo.by (fun _ k => XS.icmpYes X0.here hx rfl (pc0 := 2) (pc' := 9) rfl (hb hby d25_2) rfl (tlt (by decide : (1 : Int32) < (10 : Int32))).2.2.1 (by decide) (by decide) k) ?_
  show OGo p e below _ (s₁.setTop (mkF m 9 #[.val (.int (10 : Int32)), .val (.int (1 : Int32))] []))
  refine OGo.by (fun _ k => XS.iloadN X0.here hx rfl (hb hby d25_9) rfl k) ?_
  show OGo p e below _ (s₁.setTop (mkF m 10 #[.val (.int (10 : Int32)), .val (.int (1 : Int32))] [(.int (1 : Int32))]))
  obtain ⟨fs, hr, hrun, hended, hW, hsame⟩ := X0.leave (v := some (.int (1 : Int32))) (fun h => by rw [Bd.returns] at h; cases h)
  refine OGo.ret (retI X0 hx Bd.returns (hb hby d25_10) hr) hrun hended ⟨_, _, rfl, ?_, ⟨_, rfl⟩, hW, hsame.mono (by decide) (by decide)⟩
  show Q_rm_min1 Z  h0 n0 _ s₁.heap _
  rw [e0]
  exact ⟨rfl, N0, rfl⟩
theorem d24_0 : decode jdk_65_method_120_code 0 = .ok (.aload_n 2, 1) := by decide +kernel
theorem d24_1 : decode jdk_65_method_120_code 1 = .ok (.ldc 110, 2) := by decide +kernel
theorem d24_3 : decode jdk_65_method_120_code 3 = .ok (.if_acmp .ne 10, 3) := by decide +kernel
theorem d24_6 : decode jdk_65_method_120_code 6 = .ok (.iload_n 1, 1) := by decide +kernel
theorem d24_7 : decode jdk_65_method_120_code 7 = .ok (.anewarray 2, 3) := by decide +kernel
theorem d24_10 : decode jdk_65_method_120_code 10 = .ok (.goto 14, 3) := by decide +kernel
theorem d24_24 : decode jdk_65_method_120_code 24 = .ok (.astore_n 3, 1) := by decide +kernel
theorem d24_25 : decode jdk_65_method_120_code 25 = .ok (.aload_n 0, 1) := by decide +kernel
theorem d24_26 : decode jdk_65_method_120_code 26 = .ok (.iconst 0, 1) := by decide +kernel
theorem d24_27 : decode jdk_65_method_120_code 27 = .ok (.aload_n 3, 1) := by decide +kernel
theorem d24_28 : decode jdk_65_method_120_code 28 = .ok (.iconst 0, 1) := by decide +kernel
theorem d24_29 : decode jdk_65_method_120_code 29 = .ok (.aload_n 0, 1) := by decide +kernel
theorem d24_30 : decode jdk_65_method_120_code 30 = .ok (.arraylength, 1) := by decide +kernel
theorem d24_31 : decode jdk_65_method_120_code 31 = .ok (.iload_n 1, 1) := by decide +kernel
theorem d24_32 : decode jdk_65_method_120_code 32 = .ok (.invokestatic 304, 3) := by decide +kernel
theorem d24_35 : decode jdk_65_method_120_code 35 = .ok (.invokestatic 150, 3) := by decide +kernel
theorem d24_38 : decode jdk_65_method_120_code 38 = .ok (.aload_n 3, 1) := by decide +kernel
theorem d24_39 : decode jdk_65_method_120_code 39 = .ok (.areturn, 1) := by decide +kernel
theorem own_pn24 : plainName "java/util/Arrays" = true := by first | (simp [plainName, overriddenIn]; done) | decide +kernel
theorem ef_rm_cp3_1 (m : MethodId) (a0 : Addr) (kd : ClassId) (mr : Addr) (c0 : Addr) : entryFrame m #[(.ref a0), (.int (1 : Int32)), (.ref mr)] 4 = mkF m 0 #[.val (.ref a0), .val (.int (1 : Int32)), .val (.ref mr), .unset] [] := by first | (simp [entryFrame, mkF, argsToLocals, Value.category]; done) | rfl
def Q_rm_cp3_1 (Z : State) (a0 : Addr) (kd : ClassId) (mr : Addr) (c0 : Addr) (h0 : Heap) (n0 : Nat) (v : Option Value) (h : Heap) (L : List Loc) : Prop := ∃ b : Addr, ∃ kb : ClassId, v = some (.ref b) ∧ Fr n0 L ∧ Keep h0 h [] ∧ (h0.size ≤ b) ∧ (n0 ≤ b) ∧ (Arv Z h b kb (.object "java/lang/Object") (1 : Int32) [(.ref c0)] .null) ∧ (Exa Z h b "[Ljava/lang/Object;") ∧ (Ovr Z kb "java/lang/Object")
set_option maxRecDepth 65536 in
set_option maxHeartbeats 40000000 in
theorem rm_cp3_1 (l : Launch) (Z : State) (av0 : Array Value) (hw : ∀ d ∈ tables_1, d.before av0 Z = true) (ws : List Jvm.Cond) (a0 : Addr) (kd : ClassId) (mr : Addr) (c0 : Addr) (h0 : Heap) (n0 : Nat) (Z0 : n0 ≤ h0.size) (A_d : Arv Z h0 a0 kd (.object "java/lang/Object") (10 : Int32) [(.ref c0), .null, .null, .null, .null, .null, .null, .null, .null, .null] .null) (E_d : Exa Z h0 a0 "[Ljava/lang/Object;") (M_0 : Mir Z "[Ljava/lang/Object;" mr) (Ec0 : Exa Z h0 c0 "com/example/kept_inbox/keptinbox/UnreadConversation") :
    MetFree l (⟨"java/util/Arrays", "copyOf", "([Ljava/lang/Object;ILjava/lang/Class;)[Ljava/lang/Object;"⟩ : MethodName) (head1 (Jvm.Cond.code (⟨"java/util/Arrays", "copyOf", "([Ljava/lang/Object;ILjava/lang/Class;)[Ljava/lang/Object;"⟩ : MethodName) jdk_65_method_120_code 4 (some (.array (.object "java/lang/Object"))) :: ws) ({ frames := 1, cells := 1, slots := 1, locals := 18 } : Room)) (fun a U => a = #[(.ref a0), (.int (1 : Int32)), (.ref mr)] ∧ Z.Warmed39 U.vm ∧ U.heap = h0) (fun _ _ _ _ _ => True) (fun _ U o U' => ∃ v L, o = .returned v ∧ Q_rm_cp3_1 Z a0 kd mr c0 h0 n0 v U'.heap L ∧ FrameEnd U o U' L ({ frames := 1, cells := 1, slots := 1, locals := 18 } : Room).cells ({ frames := 1, cells := 1, slots := 1, locals := 18 } : Room).slots) := by
  refine MetFree.of_bodySF (plainFor_of_name own_pn24) hisR ?_
  intro p e s m args below meth c s₁ Bd hml0 hP hK
  obtain ⟨rfl, hZ, hh⟩ := hP
  have hx := Bd.exec
  have hby := Bd.bytes
  have hml : c.maxLocals = 4 := hml0
  have hown : s.vm.findClass "java/util/Arrays" = some m.cls := findClass_of_methodNamed Bd.named
  have hnm := (name_of_methodNamed Bd.named Bd.method).1
  have X0 : Stand p l e ({ frames := 1, cells := 1, slots := 1, locals := 18 } : Room) s m #[(.ref a0), (.int (1 : Int32)), (.ref mr)] below meth c s₁ [] 0 0 := Stand.of_body Bd
  have e0 : s₁.heap = h0 := by rw [← hh, Bd.state]; rfl
  have N0 := Fr.nil n0
  refine OGo.by (P := fun U' o => ∃ v L, o = .returned v ∧ Q_rm_cp3_1 Z a0 kd mr c0 h0 n0 v U'.heap L ∧ FrameEnd s o U' L ({ frames := 1, cells := 1, slots := 1, locals := 18 } : Room).cells ({ frames := 1, cells := 1, slots := 1, locals := 18 } : Room).slots) (fun T_ k_ => castTop (ef_rm_cp3_1 m a0 kd mr c0) k_) ?_
  show OGo p e below _ (s₁.setTop (mkF m 0 #[.val (.ref a0), .val (.int (1 : Int32)), .val (.ref mr), .unset] []))
  refine OGo.by (fun _ k => XS.aloadN X0.here hx rfl (hb hby d24_0) rfl rfl k) ?_
  show OGo p e below _ (s₁.setTop (mkF m 1 #[.val (.ref a0), .val (.int (1 : Int32)), .val (.ref mr), .unset] [(.ref mr)]))
  obtain ⟨vm1, X1, st1⟩ := X0.ldcMirror hx hown (mvT hZ (hw _ (List.mem_of_getElem? (i := 194) rfl))) (own_mev hZ M_0) (g := (mkF m 1 #[.val (.ref a0), .val (.int (1 : Int32)), .val (.ref mr), .unset] [(.ref mr)])) rfl (hb hby d24_1)
  refine OGo.by st1 ?_
  have e1 : (s₁.setVm vm1).heap = h0 := e0
  show OGo p e below _ ((s₁.setVm vm1).setTop (mkF m 3 #[.val (.ref a0), .val (.int (1 : Int32)), .val (.ref mr), .unset] [(.ref mr), (.ref mr)]))
  refine OGo.by (fun _ k => Jvm.RoadKit.acmp (g := (mkF m 3 #[.val (.ref a0), .val (.int (1 : Int32)), .val (.ref mr), .unset] [(.ref mr), (.ref mr)])) X1 hx rfl rfl rfl (pc0 := 3) (pc' := 6) (same := true) rfl (hb hby d24_3) rfl (decide_eq_true rfl) (by decide) (by decide) k) ?_
  show OGo p e below _ ((s₁.setVm vm1).setTop (mkF m 6 #[.val (.ref a0), .val (.int (1 : Int32)), .val (.ref mr), .unset] []))
  refine OGo.by (fun _ k => XS.iloadN X1.here hx rfl (hb hby d24_6) rfl k) ?_
  show OGo p e below _ ((s₁.setVm vm1).setTop (mkF m 7 #[.val (.ref a0), .val (.int (1 : Int32)), .val (.ref mr), .unset] [(.int (1 : Int32))]))
  obtain ⟨T2, h2, k2, X2, e2, E2, A2, XA2, O2, st2⟩ := newRE X1 hx hZ hown (hw _ (List.mem_of_getElem? (i := 195) rfl)) (hw _ (List.mem_of_getElem? (i := 167) rfl)) e1 (g := (mkF m 7 #[.val (.ref a0), .val (.int (1 : Int32)), .val (.ref mr), .unset] [(.int (1 : Int32))])) rfl (hb hby d24_7) rfl (by decide : ¬ ((1 : Int32) < (0 : Int32))) (cap := 1) (by decide) (by decide) (by decide) (by decide) (ad := "[Ljava/lang/Object;") (by decide)
  obtain ⟨b2, g2⟩ : ∃ z, z = h0.size := ⟨_, rfl⟩
  rw [← g2] at A2 XA2 st2
  have ne_a0_b2 : a0 ≠ b2 := Nat.ne_of_lt (Nat.lt_of_lt_of_le A_d.lt (Nat.le_of_eq g2.symm))
  have ne_c0_b2 : c0 ≠ b2 := Nat.ne_of_lt (Nat.lt_of_lt_of_le Ec0.lt (Nat.le_of_eq g2.symm))
  have g_b2 : n0 ≤ b2 := Nat.le_trans Z0 (Nat.le_of_eq g2.symm)
  have sz_b2 : h0.size ≤ b2 := Nat.le_trans (Nat.le_refl _) (Nat.le_of_eq g2.symm)
  refine OGo.by st2 ?_
  have K2 : Keep h0 h2 [] := ((Keep.refl h0 [])).ext E2
  have V2 : Arv Z h2 b2 k2 (.object "java/lang/Object") (1 : Int32) [.null] .null := (Arv.new A2 (by decide)).pad (pad_rep [] .null 1)
  show OGo p e below _ (T2.setTop (mkF m 10 #[.val (.ref a0), .val (.int (1 : Int32)), .val (.ref mr), .unset] [(.ref b2)]))
  refine OGo.by (fun _ k => XS.goto X2.here hx rfl (pc0 := 10) (pc' := 24) rfl (hb hby d24_10) (by decide) (by decide) k) ?_
  show OGo p e below _ (T2.setTop (mkF m 24 #[.val (.ref a0), .val (.int (1 : Int32)), .val (.ref mr), .unset] [(.ref b2)]))
  refine OGo.by (fun _ k => XS.astoreN X2.here hx rfl (hb hby d24_24) rfl rfl (l' := #[.val (.ref a0), .val (.int (1 : Int32)), .val (.ref mr), .val (.ref b2)]) rfl k) ?_
  show OGo p e below _ (T2.setTop (mkF m 25 #[.val (.ref a0), .val (.int (1 : Int32)), .val (.ref mr), .val (.ref b2)] []))
  refine OGo.by (fun _ k => XS.aloadN X2.here hx rfl (hb hby d24_25) rfl rfl k) ?_
  show OGo p e below _ (T2.setTop (mkF m 26 #[.val (.ref a0), .val (.int (1 : Int32)), .val (.ref mr), .val (.ref b2)] [(.ref a0)]))
  refine OGo.by (fun _ k => XS.iconst X2.here hx rfl (hb hby d24_26) k) ?_
  show OGo p e below _ (T2.setTop (mkF m 27 #[.val (.ref a0), .val (.int (1 : Int32)), .val (.ref mr), .val (.ref b2)] [(.int (0 : Int32)), (.ref a0)]))
  refine OGo.by (fun _ k => XS.aloadN X2.here hx rfl (hb hby d24_27) rfl rfl k) ?_
  show OGo p e below _ (T2.setTop (mkF m 28 #[.val (.ref a0), .val (.int (1 : Int32)), .val (.ref mr), .val (.ref b2)] [(.ref b2), (.int (0 : Int32)), (.ref a0)]))
  refine OGo.by (fun _ k => XS.iconst X2.here hx rfl (hb hby d24_28) k) ?_
  show OGo p e below _ (T2.setTop (mkF m 29 #[.val (.ref a0), .val (.int (1 : Int32)), .val (.ref mr), .val (.ref b2)] [(.int (0 : Int32)), (.ref b2), (.int (0 : Int32)), (.ref a0)]))
  refine OGo.by (fun _ k => XS.aloadN X2.here hx rfl (hb hby d24_29) rfl rfl k) ?_
  show OGo p e below _ (T2.setTop (mkF m 30 #[.val (.ref a0), .val (.int (1 : Int32)), .val (.ref mr), .val (.ref b2)] [(.ref a0), (.int (0 : Int32)), (.ref b2), (.int (0 : Int32)), (.ref a0)]))
  have f3 : Arv Z h2 a0 kd (.object "java/lang/Object") (10 : Int32) [(.ref c0), .null, .null, .null, .null, .null, .null, .null, .null, .null] .null := (A_d.ext E2)
  obtain ⟨cl4, Ar4, q4, S4, M4, -, -⟩ := id f3
  refine OGo.by (X2.arraylength hx (by rw [e2]; exact Ar4.1) (State.isArrayOf_alike hZ.alike Ar4.2.1) (g := (mkF m 30 #[.val (.ref a0), .val (.int (1 : Int32)), .val (.ref mr), .val (.ref b2)] [(.ref a0), (.int (0 : Int32)), (.ref b2), (.int (0 : Int32)), (.ref a0)])) rfl rfl (hb hby d24_30)) ?_
  rw [len_of S4 M4]
  show OGo p e below _ (T2.setTop (mkF m 31 #[.val (.ref a0), .val (.int (1 : Int32)), .val (.ref mr), .val (.ref b2)] [(.int (10 : Int32)), (.int (0 : Int32)), (.ref b2), (.int (0 : Int32)), (.ref a0)]))
  refine OGo.by (fun _ k => XS.iloadN X2.here hx rfl (hb hby d24_31) rfl k) ?_
  show OGo p e below _ (T2.setTop (mkF m 32 #[.val (.ref a0), .val (.int (1 : Int32)), .val (.ref mr), .val (.ref b2)] [(.int (1 : Int32)), (.int (10 : Int32)), (.int (0 : Int32)), (.ref b2), (.int (0 : Int32)), (.ref a0)]))
  obtain ⟨_, _, ⟨T5, L5, k5, n5⟩, -, X5, ⟨Lc5, hQ5, l5, y5, z5⟩, st5⟩ := Jvm.LawKit.callS X2 hx (y := (⟨"java/lang/Math", "min", "(II)I"⟩ : MethodName)) hown (mvT hZ (hw _ (List.mem_of_getElem? (i := 196) rfl))) (mvT hZ (hw _ (List.mem_of_getElem? (i := 197) rfl))) (mvT hZ (hw _ (List.mem_of_getElem? (i := 164) rfl))) (mvT hZ (hw _ (List.mem_of_getElem? (i := 198) rfl))) (by decide) (backOf (W := 4) (rm_min1 l Z av0 hw [] h2 n0 (Nat.le_trans Z0 K2.1)) hZ (hw _ (List.mem_of_getElem? (i := 198) rfl)) (hw _ (List.mem_of_getElem? (i := 164) rfl)) (by decide) (by decide)) (g := (mkF m 32 #[.val (.ref a0), .val (.int (1 : Int32)), .val (.ref mr), .val (.ref b2)] [(.int (1 : Int32)), (.int (10 : Int32)), (.int (0 : Int32)), (.ref b2), (.int (0 : Int32)), (.ref a0)])) rfl (by rw [hml]; rfl) (argsL := [(.int (10 : Int32)), (.int (1 : Int32))]) (rest := [(.int (0 : Int32)), (.ref b2), (.int (0 : Int32)), (.ref a0)]) (lenOf own_pd1 rfl) rfl (by show 2 * 0 + _ ≤ _; exact Nat.le_of_eq rfl) (hb hby d24_32) (fun _ _ => ⟨rfl, e2, (by decide : 1 + 0 ≤ _), (by decide : 1 + 0 ≤ _)⟩)
  dsimp only [Pt.U, Pt.locs, Pt.cells, Pt.slots] at X5 l5 y5 z5 st5 hQ5
  subst l5 y5 z5
  obtain ⟨rfl, N5q, e5⟩ := hQ5
  have N5 := Fr.app N0 N5q
  refine OGo.by st5 ?_
  show OGo p e below _ (T5.setTop (mkF m 35 #[.val (.ref a0), .val (.int (1 : Int32)), .val (.ref mr), .val (.ref b2)] [(.int (1 : Int32)), (.int (0 : Int32)), (.ref b2), (.int (0 : Int32)), (.ref a0)]))
  obtain ⟨clb6, Arb6, qb6, -, -, -, -⟩ := id V2
  have f7 : Exa Z h2 c0 "com/example/kept_inbox/keptinbox/UnreadConversation" := (Ec0.ext E2)
  obtain ⟨T6, h6, L6, X6, e6, N6, Kc6, V6, st6⟩ := cpA X5 hx hZ hown (hw _ (List.mem_of_getElem? (i := 199) rfl)) (hw _ (List.mem_of_getElem? (i := 202) rfl)) (hw _ (List.mem_of_getElem? (i := 200) rfl)) (hw _ (List.mem_of_getElem? (i := 201) rfl)) e5 (sp := (0 : Int32)) (dp := (0 : Int32)) (nn := (1 : Int32)) (us := [(.ref c0)]) f3 V2 (Or.inr ⟨rfl, rfl, ⟨(Sto.ofV Arb6 qb6 O2 (Ins.of_exa f7 (hw _ (List.mem_of_getElem? (i := 168) rfl)))), trivial⟩⟩) (by decide) (by decide) (by decide) (by decide) (by decide) rfl (by decide) N5 g_b2 (g := (mkF m 35 #[.val (.ref a0), .val (.int (1 : Int32)), .val (.ref mr), .val (.ref b2)] [(.int (1 : Int32)), (.int (0 : Int32)), (.ref b2), (.int (0 : Int32)), (.ref a0)])) rfl (by rw [hml]; rfl) rfl (hb hby d24_35) (by decide) (W := 0) (by show 2 * 0 + _ ≤ _; exact Nat.le_of_eq rfl) (by decide)
  refine OGo.by st6 ?_
  have K6 : Keep h0 h6 [] := (K2).trans Kc6 (allS (P := fun x => x ∈ ([] : List Addr) ∨ h0.size ≤ x) (Or.inr sz_b2) (all0 (P := fun x => x ∈ ([] : List Addr) ∨ h0.size ≤ x)))
  show OGo p e below _ (T6.setTop (mkF m 38 #[.val (.ref a0), .val (.int (1 : Int32)), .val (.ref mr), .val (.ref b2)] []))
  refine OGo.by (fun _ k => XS.aloadN X6.here hx rfl (hb hby d24_38) rfl rfl k) ?_
  show OGo p e below _ (T6.setTop (mkF m 39 #[.val (.ref a0), .val (.int (1 : Int32)), .val (.ref mr), .val (.ref b2)] [(.ref b2)]))
  obtain ⟨fs, hr, hrun, hended, hW, hsame⟩ := X6.leave (v := some (.ref b2)) (fun h => by rw [Bd.returns] at h; cases h)
  refine OGo.ret (retOut X6 hx Bd.returns rfl (Or.inr (Or.inr (Or.inr (Or.inr ⟨rfl, rfl, rfl⟩)))) (hb hby d24_39) hr) hrun hended ⟨_, _, rfl, ?_, ⟨_, rfl⟩, hW, hsame.mono (by decide) (by decide)⟩
  show Q_rm_cp3_1 Z a0 kd mr c0 h0 n0 _ T6.heap _
  rw [e6]
  have f8 : Exa Z h6 b2 "[Ljava/lang/Object;" := (XA2.keep Kc6)
  exact ⟨b2, k2, rfl, N6, K6, sz_b2, g_b2, V6, f8, O2⟩
theorem d23_0 : decode jdk_65_method_119_code 0 = .ok (.aload_n 0, 1) := by decide +kernel
theorem d23_1 : decode jdk_65_method_119_code 1 = .ok (.iload_n 1, 1) := by decide +kernel
theorem d23_2 : decode jdk_65_method_119_code 2 = .ok (.aload_n 0, 1) := by decide +kernel
theorem d23_3 : decode jdk_65_method_119_code 3 = .ok (.invokevirtual 86, 3) := by decide +kernel
theorem d23_6 : decode jdk_65_method_119_code 6 = .ok (.invokestatic 300, 3) := by decide +kernel
theorem own_pd9 : parseMethodDescriptor "([Ljava/lang/Object;ILjava/lang/Class;)[Ljava/lang/Object;" = some ⟨[(.array (.object "java/lang/Object")), .int, (.object "java/lang/Class")], some (.array (.object "java/lang/Object"))⟩ := by decide +kernel
theorem d23_9 : decode jdk_65_method_119_code 9 = .ok (.areturn, 1) := by decide +kernel
theorem own_pn23 : plainName "java/util/Arrays" = true := by first | (simp [plainName, overriddenIn]; done) | decide +kernel
theorem ef_rm_cp2_1 (m : MethodId) (a0 : Addr) (kd : ClassId) (mr : Addr) (c0 : Addr) : entryFrame m #[(.ref a0), (.int (1 : Int32))] 2 = mkF m 0 #[.val (.ref a0), .val (.int (1 : Int32))] [] := by first | (simp [entryFrame, mkF, argsToLocals, Value.category]; done) | rfl
def Q_rm_cp2_1 (Z : State) (a0 : Addr) (kd : ClassId) (mr : Addr) (c0 : Addr) (h0 : Heap) (n0 : Nat) (v : Option Value) (h : Heap) (L : List Loc) : Prop := ∃ b : Addr, ∃ kb : ClassId, v = some (.ref b) ∧ Fr n0 L ∧ Keep h0 h [] ∧ (h0.size ≤ b) ∧ (n0 ≤ b) ∧ (Arv Z h b kb (.object "java/lang/Object") (1 : Int32) [(.ref c0)] .null) ∧ (Exa Z h b "[Ljava/lang/Object;") ∧ (Ovr Z kb "java/lang/Object")
set_option maxRecDepth 65536 in
set_option maxHeartbeats 40000000 in
theorem rm_cp2_1 (l : Launch) (Z : State) (av0 : Array Value) (hw : ∀ d ∈ tables_1, d.before av0 Z = true) (ws : List Jvm.Cond) (a0 : Addr) (kd : ClassId) (mr : Addr) (c0 : Addr) (h0 : Heap) (n0 : Nat) (Z0 : n0 ≤ h0.size) (A_d : Arv Z h0 a0 kd (.object "java/lang/Object") (10 : Int32) [(.ref c0), .null, .null, .null, .null, .null, .null, .null, .null, .null] .null) (E_d : Exa Z h0 a0 "[Ljava/lang/Object;") (M_0 : Mir Z "[Ljava/lang/Object;" mr) (Ec0 : Exa Z h0 c0 "com/example/kept_inbox/keptinbox/UnreadConversation") :
    MetFree l (⟨"java/util/Arrays", "copyOf", "([Ljava/lang/Object;I)[Ljava/lang/Object;"⟩ : MethodName) (head1 (Jvm.Cond.code (⟨"java/util/Arrays", "copyOf", "([Ljava/lang/Object;I)[Ljava/lang/Object;"⟩ : MethodName) jdk_65_method_119_code 2 (some (.array (.object "java/lang/Object"))) :: ws) ({ frames := 2, cells := 1, slots := 1, locals := 33 } : Room)) (fun a U => a = #[(.ref a0), (.int (1 : Int32))] ∧ Z.Warmed39 U.vm ∧ U.heap = h0) (fun _ _ _ _ _ => True) (fun _ U o U' => ∃ v L, o = .returned v ∧ Q_rm_cp2_1 Z a0 kd mr c0 h0 n0 v U'.heap L ∧ FrameEnd U o U' L ({ frames := 2, cells := 1, slots := 1, locals := 33 } : Room).cells ({ frames := 2, cells := 1, slots := 1, locals := 33 } : Room).slots) := by
  refine MetFree.of_bodySF (plainFor_of_name own_pn23) hisR ?_
  intro p e s m args below meth c s₁ Bd hml0 hP hK
  obtain ⟨rfl, hZ, hh⟩ := hP
  have hx := Bd.exec
  have hby := Bd.bytes
  have hml : c.maxLocals = 2 := hml0
  have hown : s.vm.findClass "java/util/Arrays" = some m.cls := findClass_of_methodNamed Bd.named
  have hnm := (name_of_methodNamed Bd.named Bd.method).1
  have X0 : Stand p l e ({ frames := 2, cells := 1, slots := 1, locals := 33 } : Room) s m #[(.ref a0), (.int (1 : Int32))] below meth c s₁ [] 0 0 := Stand.of_body Bd
  have e0 : s₁.heap = h0 := by rw [← hh, Bd.state]; rfl
  have N0 := Fr.nil n0
  refine OGo.by (P := fun U' o => ∃ v L, o = .returned v ∧ Q_rm_cp2_1 Z a0 kd mr c0 h0 n0 v U'.heap L ∧ FrameEnd s o U' L ({ frames := 2, cells := 1, slots := 1, locals := 33 } : Room).cells ({ frames := 2, cells := 1, slots := 1, locals := 33 } : Room).slots) (fun T_ k_ => castTop (ef_rm_cp2_1 m a0 kd mr c0) k_) ?_
  show OGo p e below _ (s₁.setTop (mkF m 0 #[.val (.ref a0), .val (.int (1 : Int32))] []))
  refine OGo.by (fun _ k => XS.aloadN X0.here hx rfl (hb hby d23_0) rfl rfl k) ?_
  show OGo p e below _ (s₁.setTop (mkF m 1 #[.val (.ref a0), .val (.int (1 : Int32))] [(.ref a0)]))
  refine OGo.by (fun _ k => XS.iloadN X0.here hx rfl (hb hby d23_1) rfl k) ?_
  show OGo p e below _ (s₁.setTop (mkF m 2 #[.val (.ref a0), .val (.int (1 : Int32))] [(.int (1 : Int32)), (.ref a0)]))
  refine OGo.by (fun _ k => XS.aloadN X0.here hx rfl (hb hby d23_2) rfl rfl k) ?_
  show OGo p e below _ (s₁.setTop (mkF m 3 #[.val (.ref a0), .val (.int (1 : Int32))] [(.ref a0), (.int (1 : Int32)), (.ref a0)]))
  obtain ⟨T1, X1, e1, st1⟩ := gcls X0 hx hZ hown (hw _ (List.mem_of_getElem? (i := 185) rfl)) (hw _ (List.mem_of_getElem? (i := 186) rfl)) (hw _ (List.mem_of_getElem? (i := 50) rfl)) (hw _ (List.mem_of_getElem? (i := 188) rfl)) (hw _ (List.mem_of_getElem? (i := 187) rfl)) (hw _ (List.mem_of_getElem? (i := 189) rfl)) e0 E_d M_0 (g := (mkF m 3 #[.val (.ref a0), .val (.int (1 : Int32))] [(.ref a0), (.int (1 : Int32)), (.ref a0)])) rfl (by rw [hml]; rfl) rfl (hb hby d23_3) (by decide) (W := 2) (by show 2 * 0 + _ ≤ _; exact Nat.le_of_eq rfl) (by decide)
  refine OGo.by st1 ?_
  show OGo p e below _ (T1.setTop (mkF m 6 #[.val (.ref a0), .val (.int (1 : Int32))] [(.ref mr), (.int (1 : Int32)), (.ref a0)]))
  obtain ⟨_, _, ⟨T2, L2, k2, n2⟩, -, X2, ⟨Lc2, hQ2, l2, y2, z2⟩, st2⟩ := Jvm.LawKit.callS X1 hx (y := (⟨"java/util/Arrays", "copyOf", "([Ljava/lang/Object;ILjava/lang/Class;)[Ljava/lang/Object;"⟩ : MethodName)) hown (mvT hZ (hw _ (List.mem_of_getElem? (i := 191) rfl))) (mvT hZ (hw _ (List.mem_of_getElem? (i := 192) rfl))) (mvT hZ (hw _ (List.mem_of_getElem? (i := 183) rfl))) (mvT hZ (hw _ (List.mem_of_getElem? (i := 193) rfl))) (by decide) (backOf (W := 0) (rm_cp3_1 l Z av0 hw [] a0 kd mr c0 h0 n0 Z0 A_d E_d M_0 Ec0) hZ (hw _ (List.mem_of_getElem? (i := 193) rfl)) (hw _ (List.mem_of_getElem? (i := 183) rfl)) (by decide) (by decide)) (g := (mkF m 6 #[.val (.ref a0), .val (.int (1 : Int32))] [(.ref mr), (.int (1 : Int32)), (.ref a0)])) rfl (by rw [hml]; rfl) (argsL := [(.ref a0), (.int (1 : Int32)), (.ref mr)]) (rest := []) (lenOf own_pd9 rfl) rfl (by show 2 * 0 + _ ≤ _; exact Nat.le_of_eq rfl) (hb hby d23_6) (fun _ _ => ⟨rfl, e1, (by decide : 0 + 1 ≤ _), (by decide : 0 + 1 ≤ _)⟩)
  dsimp only [Pt.U, Pt.locs, Pt.cells, Pt.slots] at X2 l2 y2 z2 st2 hQ2
  subst l2 y2 z2
  obtain ⟨b_2, kb_2, rfl, N2q, Kc2, G2_0, G2_1, G2_2, G2_3, G2_4⟩ := hQ2
  have N2 := Fr.app N0 N2q
  have ne_a0_b_2 : a0 ≠ b_2 := Nat.ne_of_lt (Nat.lt_of_lt_of_le A_d.lt G2_0)
  have ne_c0_b_2 : c0 ≠ b_2 := Nat.ne_of_lt (Nat.lt_of_lt_of_le Ec0.lt G2_0)
  have g_b_2 : n0 ≤ b_2 := Nat.le_trans Z0 G2_0
  have sz_b_2 : h0.size ≤ b_2 := Nat.le_trans (Nat.le_refl _) G2_0
  have K2 : Keep h0 T2.heap [] := ((Keep.refl h0 [])).trans Kc2 (all0 (P := fun x => x ∈ ([] : List Addr) ∨ h0.size ≤ x))
  refine OGo.by st2 ?_
  show OGo p e below _ (T2.setTop (mkF m 9 #[.val (.ref a0), .val (.int (1 : Int32))] [(.ref b_2)]))
  obtain ⟨fs, hr, hrun, hended, hW, hsame⟩ := X2.leave (v := some (.ref b_2)) (fun h => by rw [Bd.returns] at h; cases h)
  refine OGo.ret (retOut X2 hx Bd.returns rfl (Or.inr (Or.inr (Or.inr (Or.inr ⟨rfl, rfl, rfl⟩)))) (hb hby d23_9) hr) hrun hended ⟨_, _, rfl, ?_, ⟨_, rfl⟩, hW, hsame.mono (by decide) (by decide)⟩
  show Q_rm_cp2_1 Z a0 kd mr c0 h0 n0 _ T2.heap _
  exact ⟨b_2, kb_2, rfl, N2, K2, sz_b_2, g_b_2, G2_2, G2_3, G2_4⟩
theorem d22_0 : decode jdk_38_method_16_code 0 = .ok (.aload_n 0, 1) := by decide +kernel
theorem d22_1 : decode jdk_38_method_16_code 1 = .ok (.getfield 9, 3) := by decide +kernel
theorem d22_4 : decode jdk_38_method_16_code 4 = .ok (.aload_n 0, 1) := by decide +kernel
theorem d22_5 : decode jdk_38_method_16_code 5 = .ok (.getfield 48, 3) := by decide +kernel
theorem d22_8 : decode jdk_38_method_16_code 8 = .ok (.invokestatic 66, 3) := by decide +kernel
theorem own_pd10 : parseMethodDescriptor "([Ljava/lang/Object;I)[Ljava/lang/Object;" = some ⟨[(.array (.object "java/lang/Object")), .int], some (.array (.object "java/lang/Object"))⟩ := by decide +kernel
theorem d22_11 : decode jdk_38_method_16_code 11 = .ok (.areturn, 1) := by decide +kernel
theorem own_pn22 : plainName "java/util/ArrayList" = true := by first | (simp [plainName, overriddenIn]; done) | decide +kernel
theorem ef_rm_toa1 (m : MethodId) (a0 : Addr) : entryFrame m #[(.ref a0)] 1 = mkF m 0 #[.val (.ref a0)] [] := by first | (simp [entryFrame, mkF, argsToLocals, Value.category]; done) | rfl
def Q_rm_toa1 (Z : State) (a0 : Addr) (d : Addr) (kd : ClassId) (mr : Addr) (c0 : Addr) (h0 : Heap) (n0 : Nat) (v : Option Value) (h : Heap) (L : List Loc) : Prop := ∃ b : Addr, ∃ kb : ClassId, v = some (.ref b) ∧ Fr n0 L ∧ Keep h0 h [] ∧ (h0.size ≤ b) ∧ (n0 ≤ b) ∧ (Arv Z h b kb (.object "java/lang/Object") (1 : Int32) [(.ref c0)] .null) ∧ (Exa Z h b "[Ljava/lang/Object;") ∧ (Ovr Z kb "java/lang/Object")
set_option maxRecDepth 65536 in
set_option maxHeartbeats 40000000 in
theorem rm_toa1 (l : Launch) (Z : State) (av0 : Array Value) (hw : ∀ d ∈ tables_1, d.before av0 Z = true) (ws : List Jvm.Cond) (a0 : Addr) (d : Addr) (kd : ClassId) (mr : Addr) (c0 : Addr) (h0 : Heap) (n0 : Nat) (Z0 : n0 ≤ h0.size) (E0 : Exa Z h0 a0 "java/util/ArrayList") (F0 : Fld Z h0 a0 "java/util/ArrayList" "size" "I" (.int (1 : Int32))) (F1 : Fld Z h0 a0 "java/util/ArrayList" "elementData" "[Ljava/lang/Object;" (.ref d)) (A_d : Arv Z h0 d kd (.object "java/lang/Object") (10 : Int32) [(.ref c0), .null, .null, .null, .null, .null, .null, .null, .null, .null] .null) (E_d : Exa Z h0 d "[Ljava/lang/Object;") (M_0 : Mir Z "[Ljava/lang/Object;" mr) (Ec0 : Exa Z h0 c0 "com/example/kept_inbox/keptinbox/UnreadConversation") :
    MetFree l (⟨"java/util/ArrayList", "toArray", "()[Ljava/lang/Object;"⟩ : MethodName) (head1 (Jvm.Cond.code (⟨"java/util/ArrayList", "toArray", "()[Ljava/lang/Object;"⟩ : MethodName) jdk_38_method_16_code 1 (some (.array (.object "java/lang/Object"))) :: ws) ({ frames := 3, cells := 1, slots := 1, locals := 46 } : Room)) (fun a U => a = #[(.ref a0)] ∧ Z.Warmed39 U.vm ∧ U.heap = h0) (fun _ _ _ _ _ => True) (fun _ U o U' => ∃ v L, o = .returned v ∧ Q_rm_toa1 Z a0 d kd mr c0 h0 n0 v U'.heap L ∧ FrameEnd U o U' L ({ frames := 3, cells := 1, slots := 1, locals := 46 } : Room).cells ({ frames := 3, cells := 1, slots := 1, locals := 46 } : Room).slots) := by
  refine MetFree.of_bodySF (plainFor_of_name own_pn22) hisR ?_
  intro p e s m args below meth c s₁ Bd hml0 hP hK
  obtain ⟨rfl, hZ, hh⟩ := hP
  have hx := Bd.exec
  have hby := Bd.bytes
  have hml : c.maxLocals = 1 := hml0
  have hown : s.vm.findClass "java/util/ArrayList" = some m.cls := findClass_of_methodNamed Bd.named
  have hnm := (name_of_methodNamed Bd.named Bd.method).1
  have X0 : Stand p l e ({ frames := 3, cells := 1, slots := 1, locals := 46 } : Room) s m #[(.ref a0)] below meth c s₁ [] 0 0 := Stand.of_body Bd
  have e0 : s₁.heap = h0 := by rw [← hh, Bd.state]; rfl
  have N0 := Fr.nil n0
  refine OGo.by (P := fun U' o => ∃ v L, o = .returned v ∧ Q_rm_toa1 Z a0 d kd mr c0 h0 n0 v U'.heap L ∧ FrameEnd s o U' L ({ frames := 3, cells := 1, slots := 1, locals := 46 } : Room).cells ({ frames := 3, cells := 1, slots := 1, locals := 46 } : Room).slots) (fun T_ k_ => castTop (ef_rm_toa1 m a0) k_) ?_
  show OGo p e below _ (s₁.setTop (mkF m 0 #[.val (.ref a0)] []))
  refine OGo.by (fun _ k => XS.aloadN X0.here hx rfl (hb hby d22_0) rfl rfl k) ?_
  show OGo p e below _ (s₁.setTop (mkF m 1 #[.val (.ref a0)] [(.ref a0)]))
  obtain ⟨T1, X1, e1, st1⟩ := getF X0 hx hZ hown (host := "") (Or.inl (hw _ (List.mem_of_getElem? (i := 24) rfl))) Via.refl e0 F1 (g := (mkF m 1 #[.val (.ref a0)] [(.ref a0)])) rfl rfl (hb hby d22_1)
  refine OGo.by st1 ?_
  show OGo p e below _ (T1.setTop (mkF m 4 #[.val (.ref a0)] [(.ref d)]))
  refine OGo.by (fun _ k => XS.aloadN X1.here hx rfl (hb hby d22_4) rfl rfl k) ?_
  show OGo p e below _ (T1.setTop (mkF m 5 #[.val (.ref a0)] [(.ref a0), (.ref d)]))
  obtain ⟨T2, X2, e2, st2⟩ := getF X1 hx hZ hown (host := "") (Or.inl (hw _ (List.mem_of_getElem? (i := 61) rfl))) Via.refl e1 F0 (g := (mkF m 5 #[.val (.ref a0)] [(.ref a0), (.ref d)])) rfl rfl (hb hby d22_5)
  refine OGo.by st2 ?_
  show OGo p e below _ (T2.setTop (mkF m 8 #[.val (.ref a0)] [(.int (1 : Int32)), (.ref d)]))
  obtain ⟨_, _, ⟨T3, L3, k3, n3⟩, -, X3, ⟨Lc3, hQ3, l3, y3, z3⟩, st3⟩ := Jvm.LawKit.callS X2 hx (y := (⟨"java/util/Arrays", "copyOf", "([Ljava/lang/Object;I)[Ljava/lang/Object;"⟩ : MethodName)) hown (mvT hZ (hw _ (List.mem_of_getElem? (i := 181) rfl))) (mvT hZ (hw _ (List.mem_of_getElem? (i := 182) rfl))) (mvT hZ (hw _ (List.mem_of_getElem? (i := 183) rfl))) (mvT hZ (hw _ (List.mem_of_getElem? (i := 184) rfl))) (by decide) (backOf (W := 0) (rm_cp2_1 l Z av0 hw [] d kd mr c0 h0 n0 Z0 A_d E_d M_0 Ec0) hZ (hw _ (List.mem_of_getElem? (i := 184) rfl)) (hw _ (List.mem_of_getElem? (i := 183) rfl)) (by decide) (by decide)) (g := (mkF m 8 #[.val (.ref a0)] [(.int (1 : Int32)), (.ref d)])) rfl (by rw [hml]; rfl) (argsL := [(.ref d), (.int (1 : Int32))]) (rest := []) (lenOf own_pd10 rfl) rfl (by show 2 * 0 + _ ≤ _; exact Nat.le_of_eq rfl) (hb hby d22_8) (fun _ _ => ⟨rfl, e2, (by decide : 0 + 1 ≤ _), (by decide : 0 + 1 ≤ _)⟩)
  dsimp only [Pt.U, Pt.locs, Pt.cells, Pt.slots] at X3 l3 y3 z3 st3 hQ3
  subst l3 y3 z3
  obtain ⟨b_3, kb_3, rfl, N3q, Kc3, G3_0, G3_1, G3_2, G3_3, G3_4⟩ := hQ3
  have N3 := Fr.app N0 N3q
  have ne_a0_b_3 : a0 ≠ b_3 := Nat.ne_of_lt (Nat.lt_of_lt_of_le E0.lt G3_0)
  have ne_d_b_3 : d ≠ b_3 := Nat.ne_of_lt (Nat.lt_of_lt_of_le A_d.lt G3_0)
  have ne_c0_b_3 : c0 ≠ b_3 := Nat.ne_of_lt (Nat.lt_of_lt_of_le Ec0.lt G3_0)
  have g_b_3 : n0 ≤ b_3 := Nat.le_trans Z0 G3_0
  have sz_b_3 : h0.size ≤ b_3 := Nat.le_trans (Nat.le_refl _) G3_0
  have K3 : Keep h0 T3.heap [] := ((Keep.refl h0 [])).trans Kc3 (all0 (P := fun x => x ∈ ([] : List Addr) ∨ h0.size ≤ x))
  refine OGo.by st3 ?_
  show OGo p e below _ (T3.setTop (mkF m 11 #[.val (.ref a0)] [(.ref b_3)]))
  obtain ⟨fs, hr, hrun, hended, hW, hsame⟩ := X3.leave (v := some (.ref b_3)) (fun h => by rw [Bd.returns] at h; cases h)
  refine OGo.ret (retOut X3 hx Bd.returns rfl (Or.inr (Or.inr (Or.inr (Or.inr ⟨rfl, rfl, rfl⟩)))) (hb hby d22_11) hr) hrun hended ⟨_, _, rfl, ?_, ⟨_, rfl⟩, hW, hsame.mono (by decide) (by decide)⟩
  show Q_rm_toa1 Z a0 d kd mr c0 h0 n0 _ T3.heap _
  exact ⟨b_3, kb_3, rfl, N3, K3, sz_b_3, g_b_3, G3_2, G3_3, G3_4⟩
theorem d26_0 : decode jdk_40_method_47_code 0 = .ok (.aload_n 0, 1) := by decide +kernel
theorem d26_1 : decode jdk_40_method_47_code 1 = .ok (.arraylength, 1) := by decide +kernel
theorem d26_2 : decode jdk_40_method_47_code 2 = .ok (.tableswitch 57 0 2 #[26, 32, 43], 26) := by decide +kernel
theorem d26_34 : decode jdk_40_method_47_code 34 = .ok (.new 96, 3) := by decide +kernel
theorem d26_37 : decode jdk_40_method_47_code 37 = .ok (.dup, 1) := by decide +kernel
theorem d26_38 : decode jdk_40_method_47_code 38 = .ok (.aload_n 0, 1) := by decide +kernel
theorem d26_39 : decode jdk_40_method_47_code 39 = .ok (.iconst 0, 1) := by decide +kernel
theorem d26_40 : decode jdk_40_method_47_code 40 = .ok (.aaload, 1) := by decide +kernel
theorem d26_41 : decode jdk_40_method_47_code 41 = .ok (.invokespecial 98, 3) := by decide +kernel
theorem own_pd11 : parseMethodDescriptor "(Ljava/lang/Object;)V" = some ⟨[(.object "java/lang/Object")], none⟩ := by decide +kernel
theorem d26_44 : decode jdk_40_method_47_code 44 = .ok (.areturn, 1) := by decide +kernel
theorem own_pn26 : plainName "java/util/List" = true := by first | (simp [plainName, overriddenIn]; done) | decide +kernel
theorem ef_rm_lof1 (m : MethodId) (a0 : Addr) : entryFrame m #[(.ref a0)] 2 = mkF m 0 #[.val (.ref a0), .unset] [] := by first | (simp [entryFrame, mkF, argsToLocals, Value.category]; done) | rfl
def Q_rm_lof1 (Z : State) (a0 : Addr) (ka : ClassId) (c0 : Addr) (we : Addr) (h0 : Heap) (n0 : Nat) (v : Option Value) (h : Heap) (L : List Loc) : Prop := ∃ b : Addr, v = some (.ref b) ∧ Fr n0 L ∧ Keep h0 h [] ∧ (h0.size ≤ b) ∧ (n0 ≤ b) ∧ (Exa Z h b "java/util/ImmutableCollections$List12") ∧ (Fld Z h b "java/util/ImmutableCollections$List12" "e0" "Ljava/lang/Object;" (.ref c0)) ∧ (Fld Z h b "java/util/ImmutableCollections$List12" "e1" "Ljava/lang/Object;" (.ref we))
set_option maxRecDepth 65536 in
set_option maxHeartbeats 40000000 in
theorem rm_lof1 (l : Launch) (Z : State) (av0 : Array Value) (hw : ∀ d ∈ tables_1, d.before av0 Z = true) (ws : List Jvm.Cond) (a0 : Addr) (ka : ClassId) (c0 : Addr) (we : Addr) (h0 : Heap) (n0 : Nat) (Z0 : n0 ≤ h0.size) (A_a : Arv Z h0 a0 ka (.object "java/lang/Object") (1 : Int32) [(.ref c0)] .null) (Ec0 : Exa Z h0 c0 "com/example/kept_inbox/keptinbox/UnreadConversation") (O_0 : Old Z n0 h0) (S_e : Sta Z Z.heap "java/util/ImmutableCollections" "EMPTY" "Ljava/lang/Object;" (.ref we)) :
    MetFree l (⟨"java/util/List", "of", "([Ljava/lang/Object;)Ljava/util/List;"⟩ : MethodName) (head1 (Jvm.Cond.code (⟨"java/util/List", "of", "([Ljava/lang/Object;)Ljava/util/List;"⟩ : MethodName) jdk_40_method_47_code 2 (some (.object "java/util/List")) :: ws) ({ frames := 5, cells := 1, slots := 2, locals := 62 } : Room)) (fun a U => a = #[(.ref a0)] ∧ Z.Warmed39 U.vm ∧ U.heap = h0) (fun _ _ _ _ _ => True) (fun _ U o U' => ∃ v L, o = .returned v ∧ Q_rm_lof1 Z a0 ka c0 we h0 n0 v U'.heap L ∧ FrameEnd U o U' L ({ frames := 5, cells := 1, slots := 2, locals := 62 } : Room).cells ({ frames := 5, cells := 1, slots := 2, locals := 62 } : Room).slots) := by
  refine MetFree.of_bodySF (plainFor_of_name own_pn26) hisR ?_
  intro p e s m args below meth c s₁ Bd hml0 hP hK
  obtain ⟨rfl, hZ, hh⟩ := hP
  have hx := Bd.exec
  have hby := Bd.bytes
  have hml : c.maxLocals = 2 := hml0
  have hown : s.vm.findClass "java/util/List" = some m.cls := findClass_of_methodNamed Bd.named
  have hnm := (name_of_methodNamed Bd.named Bd.method).1
  have X0 : Stand p l e ({ frames := 5, cells := 1, slots := 2, locals := 62 } : Room) s m #[(.ref a0)] below meth c s₁ [] 0 0 := Stand.of_body Bd
  have e0 : s₁.heap = h0 := by rw [← hh, Bd.state]; rfl
  have N0 := Fr.nil n0
  refine OGo.by (P := fun U' o => ∃ v L, o = .returned v ∧ Q_rm_lof1 Z a0 ka c0 we h0 n0 v U'.heap L ∧ FrameEnd s o U' L ({ frames := 5, cells := 1, slots := 2, locals := 62 } : Room).cells ({ frames := 5, cells := 1, slots := 2, locals := 62 } : Room).slots) (fun T_ k_ => castTop (ef_rm_lof1 m a0) k_) ?_
  show OGo p e below _ (s₁.setTop (mkF m 0 #[.val (.ref a0), .unset] []))
  refine OGo.by (fun _ k => XS.aloadN X0.here hx rfl (hb hby d26_0) rfl rfl k) ?_
  show OGo p e below _ (s₁.setTop (mkF m 1 #[.val (.ref a0), .unset] [(.ref a0)]))
  obtain ⟨cl1, Ar1, q1, S1, M1, -, -⟩ := id A_a
  refine OGo.by (X0.arraylength hx (by rw [e0]; exact Ar1.1) (State.isArrayOf_alike hZ.alike Ar1.2.1) (g := (mkF m 1 #[.val (.ref a0), .unset] [(.ref a0)])) rfl rfl (hb hby d26_1)) ?_
  rw [len_of S1 M1]
  show OGo p e below _ (s₁.setTop (mkF m 2 #[.val (.ref a0), .unset] [(.int (1 : Int32))]))
  refine OGo.by (fun _ k => XS.tswIn X0.here hx rfl (pc0 := 2) (pc' := 34) rfl (hb hby d26_2) rfl (by decide) (o := 32) rfl (by decide) (by decide) k) ?_
  show OGo p e below _ (s₁.setTop (mkF m 34 #[.val (.ref a0), .unset] []))
  obtain ⟨T2, h2, X2, e2, E2, A2, D2, U2, st2⟩ := newO X0 hx hZ hown (hw _ (List.mem_of_getElem? (i := 257) rfl)) (hw _ (List.mem_of_getElem? (i := 258) rfl)) (hw _ (List.mem_of_getElem? (i := 259) rfl)) e0 (g := (mkF m 34 #[.val (.ref a0), .unset] [])) rfl (hb hby d26_34) (by decide) (by decide)
  obtain ⟨b2, g2⟩ : ∃ z, z = h0.size := ⟨_, rfl⟩
  rw [← g2] at A2 D2 U2 st2
  have ne_a0_b2 : a0 ≠ b2 := Nat.ne_of_lt (Nat.lt_of_lt_of_le A_a.lt (Nat.le_of_eq g2.symm))
  have ne_c0_b2 : c0 ≠ b2 := Nat.ne_of_lt (Nat.lt_of_lt_of_le Ec0.lt (Nat.le_of_eq g2.symm))
  have g_b2 : n0 ≤ b2 := Nat.le_trans Z0 (Nat.le_of_eq g2.symm)
  have sz_b2 : h0.size ≤ b2 := Nat.le_trans (Nat.le_refl _) (Nat.le_of_eq g2.symm)
  refine OGo.by st2 ?_
  have K2 : Keep h0 h2 [] := ((Keep.refl h0 [])).ext E2
  have F2_e0 : Fld Z h2 b2 "java/util/ImmutableCollections$List12" "e0" "Ljava/lang/Object;" .null := D2 (Or.inr (hw _ (List.mem_of_getElem? (i := 270) rfl))) (ty := (.object "java/lang/Object")) (by decide)
  have F2_e1 : Fld Z h2 b2 "java/util/ImmutableCollections$List12" "e1" "Ljava/lang/Object;" .null := D2 (Or.inr (hw _ (List.mem_of_getElem? (i := 273) rfl))) (ty := (.object "java/lang/Object")) (by decide)
  show OGo p e below _ (T2.setTop (mkF m 37 #[.val (.ref a0), .unset] [(.ref b2)]))
  refine OGo.by (fun _ k => XS.dup X2.here hx rfl (hb hby d26_37) rfl rfl k) ?_
  show OGo p e below _ (T2.setTop (mkF m 38 #[.val (.ref a0), .unset] [(.ref b2), (.ref b2)]))
  refine OGo.by (fun _ k => XS.aloadN X2.here hx rfl (hb hby d26_38) rfl rfl k) ?_
  show OGo p e below _ (T2.setTop (mkF m 39 #[.val (.ref a0), .unset] [(.ref a0), (.ref b2), (.ref b2)]))
  refine OGo.by (fun _ k => XS.iconst X2.here hx rfl (hb hby d26_39) k) ?_
  show OGo p e below _ (T2.setTop (mkF m 40 #[.val (.ref a0), .unset] [(.int (0 : Int32)), (.ref a0), (.ref b2), (.ref b2)]))
  have f3 : Arv Z h2 a0 ka (.object "java/lang/Object") (1 : Int32) [(.ref c0)] .null := (A_a.ext E2)
  obtain ⟨cl4, Ar4, q4, S4, M4, Hs4, G4⟩ := id f3
  have hin4 := inb_of (j := (0 : Int32)) S4 ⟨(by decide), (by decide)⟩
  refine OGo.by (X2.aaload hx (j := (0 : Int32)) (v := (.ref c0)) (by rw [e2]; exact Ar4.1) (State.isArrayOf_alike hZ.alike Ar4.2.1) rfl Ar4.2.2 hin4 (Has.at Hs4 hin4 rfl) (g := (mkF m 40 #[.val (.ref a0), .unset] [(.int (0 : Int32)), (.ref a0), (.ref b2), (.ref b2)])) rfl rfl (hb hby d26_40)) ?_
  show OGo p e below _ (T2.setTop (mkF m 41 #[.val (.ref a0), .unset] [(.ref c0), (.ref b2), (.ref b2)]))
  have f6 : Old Z n0 h2 := (O_0.ext E2)
  obtain ⟨_, _, ⟨T5, L5, k5, n5⟩, -, X5, ⟨Lc5, hQ5, l5, y5, z5⟩, st5⟩ := X2.specialBack hx (y := (⟨"java/util/ImmutableCollections$List12", "<init>", "(Ljava/lang/Object;)V"⟩ : MethodName)) rfl hown (mvT hZ (hw _ (List.mem_of_getElem? (i := 260) rfl))) (mvT hZ (hw _ (List.mem_of_getElem? (i := 261) rfl))) (mvT hZ (hw _ (List.mem_of_getElem? (i := 263) rfl))) (by decide) (backOf (W := 1) (rm_l1 l Z av0 hw [] b2 c0 we h2 n0 (Nat.le_trans Z0 K2.1) A2 F2_e0 F2_e1 g_b2 f6 S_e) hZ (hw _ (List.mem_of_getElem? (i := 263) rfl)) (hw _ (List.mem_of_getElem? (i := 259) rfl)) (by decide) (by decide)) (g := (mkF m 41 #[.val (.ref a0), .unset] [(.ref c0), (.ref b2), (.ref b2)])) rfl (by rw [hml]; rfl) (Steps.refl _) (a := b2) (argsL := [(.ref c0)]) (rest := [(.ref b2)]) (lenOf own_pd11 rfl) rfl (by show 2 * 0 + _ ≤ _; exact Nat.le_of_eq rfl) (hb hby d26_41) (fun _ _ => ⟨rfl, e2, (by decide : 1 + 0 ≤ _), (by decide : 2 + 0 ≤ _)⟩)
  dsimp only [Pt.U, Pt.locs, Pt.cells, Pt.slots] at X5 l5 y5 z5 st5 hQ5
  subst l5 y5 z5
  obtain ⟨rfl, N5q, Kc5, G5_0, G5_1, G5_2⟩ := hQ5
  have N5 := Fr.app N0 N5q
  have K5 : Keep h0 T5.heap [] := (K2).trans Kc5 (allS (P := fun x => x ∈ ([] : List Addr) ∨ h0.size ≤ x) (Or.inr sz_b2) (all0 (P := fun x => x ∈ ([] : List Addr) ∨ h0.size ≤ x)))
  refine OGo.of st5 ?_
  show OGo p e below _ (T5.setTop (mkF m 44 #[.val (.ref a0), .unset] [(.ref b2)]))
  obtain ⟨fs, hr, hrun, hended, hW, hsame⟩ := X5.leave (v := some (.ref b2)) (fun h => by rw [Bd.returns] at h; cases h)
  refine OGo.ret (retOut X5 hx Bd.returns rfl (Or.inr (Or.inr (Or.inr (Or.inr ⟨rfl, rfl, rfl⟩)))) (hb hby d26_44) hr) hrun hended ⟨_, _, rfl, ?_, ⟨_, rfl⟩, hW, hsame.mono (by decide) (by decide)⟩
  show Q_rm_lof1 Z a0 ka c0 we h0 n0 _ T5.heap _
  exact ⟨b2, rfl, N5, K5, sz_b2, g_b2, G5_0, G5_1, G5_2⟩
theorem d8_44 : decode jdk_56_method_3_code 44 = .ok (.aload_n 0, 1) := by decide +kernel
theorem d8_45 : decode jdk_56_method_3_code 45 = .ok (.invokeinterface 30 1, 5) := by decide +kernel
theorem d8_50 : decode jdk_56_method_3_code 50 = .ok (.invokestatic 34, 3) := by decide +kernel
theorem own_pd12 : parseMethodDescriptor "([Ljava/lang/Object;)Ljava/util/List;" = some ⟨[(.array (.object "java/lang/Object"))], some (.object "java/util/List")⟩ := by decide +kernel
theorem d8_53 : decode jdk_56_method_3_code 53 = .ok (.areturn, 1) := by decide +kernel
theorem ef_rm_lc1 (m : MethodId) (a0 : Addr) : entryFrame m #[(.ref a0)] 2 = mkF m 0 #[.val (.ref a0), .unset] [] := by first | (simp [entryFrame, mkF, argsToLocals, Value.category]; done) | rfl
def Q_rm_lc1 (Z : State) (a0 : Addr) (d : Addr) (kd : ClassId) (mr : Addr) (c0 : Addr) (we : Addr) (h0 : Heap) (n0 : Nat) (v : Option Value) (h : Heap) (L : List Loc) : Prop := ∃ b : Addr, v = some (.ref b) ∧ Fr n0 L ∧ Keep h0 h [] ∧ (h0.size ≤ b) ∧ (n0 ≤ b) ∧ (Exa Z h b "java/util/ImmutableCollections$List12") ∧ (Fld Z h b "java/util/ImmutableCollections$List12" "e0" "Ljava/lang/Object;" (.ref c0)) ∧ (Fld Z h b "java/util/ImmutableCollections$List12" "e1" "Ljava/lang/Object;" (.ref we))
set_option maxRecDepth 65536 in
set_option maxHeartbeats 40000000 in
theorem rm_lc1 (l : Launch) (Z : State) (av0 : Array Value) (hw : ∀ d ∈ tables_1, d.before av0 Z = true) (ws : List Jvm.Cond) (a0 : Addr) (d : Addr) (kd : ClassId) (mr : Addr) (c0 : Addr) (we : Addr) (h0 : Heap) (n0 : Nat) (Z0 : n0 ≤ h0.size) (E0 : Exa Z h0 a0 "java/util/ArrayList") (F0 : Fld Z h0 a0 "java/util/ArrayList" "size" "I" (.int (1 : Int32))) (F1 : Fld Z h0 a0 "java/util/ArrayList" "elementData" "[Ljava/lang/Object;" (.ref d)) (A_d : Arv Z h0 d kd (.object "java/lang/Object") (10 : Int32) [(.ref c0), .null, .null, .null, .null, .null, .null, .null, .null, .null] .null) (E_d : Exa Z h0 d "[Ljava/lang/Object;") (M_0 : Mir Z "[Ljava/lang/Object;" mr) (Ec0 : Exa Z h0 c0 "com/example/kept_inbox/keptinbox/UnreadConversation") (O_0 : Old Z n0 h0) (S_e : Sta Z Z.heap "java/util/ImmutableCollections" "EMPTY" "Ljava/lang/Object;" (.ref we)) :
    MetFree l (⟨"java/util/ImmutableCollections", "listCopy", "(Ljava/util/Collection;)Ljava/util/List;"⟩ : MethodName) (head1 (Jvm.Cond.code (⟨"java/util/ImmutableCollections", "listCopy", "(Ljava/util/Collection;)Ljava/util/List;"⟩ : MethodName) jdk_56_method_3_code 2 (some (.object "java/util/List")) :: ws) ({ frames := 6, cells := 2, slots := 3, locals := 75 } : Room)) (fun a U => a = #[(.ref a0)] ∧ Z.Warmed39 U.vm ∧ U.heap = h0) (fun _ _ _ _ _ => True) (fun _ U o U' => ∃ v L, o = .returned v ∧ Q_rm_lc1 Z a0 d kd mr c0 we h0 n0 v U'.heap L ∧ FrameEnd U o U' L ({ frames := 6, cells := 2, slots := 3, locals := 75 } : Room).cells ({ frames := 6, cells := 2, slots := 3, locals := 75 } : Room).slots) := by
  refine MetFree.of_bodySF (plainFor_of_name own_pn8) hisR ?_
  intro p e s m args below meth c s₁ Bd hml0 hP hK
  obtain ⟨rfl, hZ, hh⟩ := hP
  have hx := Bd.exec
  have hby := Bd.bytes
  have hml : c.maxLocals = 2 := hml0
  have hown : s.vm.findClass "java/util/ImmutableCollections" = some m.cls := findClass_of_methodNamed Bd.named
  have hnm := (name_of_methodNamed Bd.named Bd.method).1
  have X0 : Stand p l e ({ frames := 6, cells := 2, slots := 3, locals := 75 } : Room) s m #[(.ref a0)] below meth c s₁ [] 0 0 := Stand.of_body Bd
  have e0 : s₁.heap = h0 := by rw [← hh, Bd.state]; rfl
  have N0 := Fr.nil n0
  refine OGo.by (P := fun U' o => ∃ v L, o = .returned v ∧ Q_rm_lc1 Z a0 d kd mr c0 we h0 n0 v U'.heap L ∧ FrameEnd s o U' L ({ frames := 6, cells := 2, slots := 3, locals := 75 } : Room).cells ({ frames := 6, cells := 2, slots := 3, locals := 75 } : Room).slots) (fun T_ k_ => castTop (ef_rm_lc1 m a0) k_) ?_
  show OGo p e below _ (s₁.setTop (mkF m 0 #[.val (.ref a0), .unset] []))
  refine OGo.by (fun _ k => XS.aloadN X0.here hx rfl (hb hby d8_0) rfl rfl k) ?_
  show OGo p e below _ (s₁.setTop (mkF m 1 #[.val (.ref a0), .unset] [(.ref a0)]))
  obtain ⟨T1, X1, e1, st1⟩ := instNo X0 hx hZ hown (hw _ (List.mem_of_getElem? (i := 46) rfl)) e0 E0 (own_nsNo (hw _ (List.mem_of_getElem? (i := 47) rfl)) (hw _ (List.mem_of_getElem? (i := 258) rfl)) (NS.step (hw _ (List.mem_of_getElem? (i := 47) rfl)) (NS.step (hw _ (List.mem_of_getElem? (i := 48) rfl)) (NS.step (hw _ (List.mem_of_getElem? (i := 49) rfl)) (own_nsRoot (hw _ (List.mem_of_getElem? (i := 50) rfl)) (hw _ (List.mem_of_getElem? (i := 258) rfl)) (by decide)) (by decide)) (by decide)) (by decide)) (by decide)) (g := (mkF m 1 #[.val (.ref a0), .unset] [(.ref a0)])) rfl rfl (hb hby d8_1)
  refine OGo.by st1 ?_
  show OGo p e below _ (T1.setTop (mkF m 4 #[.val (.ref a0), .unset] [(.int (0 : Int32))]))
  refine OGo.by (fun _ k => XS.ifNo X1.here hx rfl (hb hby d8_4) rfl ((if0 _ _).trans (teq (by decide : (0 : Int32) = (0 : Int32))).2) k) ?_
  show OGo p e below _ (T1.setTop (mkF m 7 #[.val (.ref a0), .unset] []))
  refine OGo.by (fun _ k => XS.aloadN X1.here hx rfl (hb hby d8_7) rfl rfl k) ?_
  show OGo p e below _ (T1.setTop (mkF m 8 #[.val (.ref a0), .unset] [(.ref a0)]))
  obtain ⟨T2, X2, e2, st2⟩ := instNo X1 hx hZ hown (hw _ (List.mem_of_getElem? (i := 51) rfl)) e1 E0 (own_nsNo (hw _ (List.mem_of_getElem? (i := 47) rfl)) (hw _ (List.mem_of_getElem? (i := 214) rfl)) (NS.step (hw _ (List.mem_of_getElem? (i := 47) rfl)) (NS.step (hw _ (List.mem_of_getElem? (i := 48) rfl)) (NS.step (hw _ (List.mem_of_getElem? (i := 49) rfl)) (own_nsRoot (hw _ (List.mem_of_getElem? (i := 50) rfl)) (hw _ (List.mem_of_getElem? (i := 214) rfl)) (by decide)) (by decide)) (by decide)) (by decide)) (by decide)) (g := (mkF m 8 #[.val (.ref a0), .unset] [(.ref a0)])) rfl rfl (hb hby d8_8)
  refine OGo.by st2 ?_
  show OGo p e below _ (T2.setTop (mkF m 11 #[.val (.ref a0), .unset] [(.int (0 : Int32))]))
  refine OGo.by (fun _ k => XS.ifYes X2.here hx rfl (pc0 := 11) (pc' := 31) rfl (hb hby d8_11) rfl ((if0 _ _).trans (teq (by decide : (0 : Int32) = (0 : Int32))).1) (by decide) (by decide) k) ?_
  show OGo p e below _ (T2.setTop (mkF m 31 #[.val (.ref a0), .unset] []))
  refine OGo.by (fun _ k => XS.aloadN X2.here hx rfl (hb hby d8_31) rfl rfl k) ?_
  show OGo p e below _ (T2.setTop (mkF m 32 #[.val (.ref a0), .unset] [(.ref a0)]))
  obtain ⟨cq3, kq3, q3a, q3b, q3c⟩ := isOf hZ e2 E0
  obtain ⟨_, _, ⟨T3, L3, k3, n3⟩, -, X3, ⟨Lc3, hQ3, l3, y3, z3⟩, st3⟩ := X2.interfaceBack hx (xi := (⟨"java/util/Collection", "isEmpty", "()Z"⟩ : MethodName)) (y := (⟨"java/util/ArrayList", "isEmpty", "()Z"⟩ : MethodName)) hown (mvT hZ (hw _ (List.mem_of_getElem? (i := 52) rfl))) (mvT hZ (hw _ (List.mem_of_getElem? (i := 53) rfl))) (mvT hZ (hw _ (List.mem_of_getElem? (i := 54) rfl))) (mvT hZ (hw _ (List.mem_of_getElem? (i := 55) rfl))) (mvT hZ (hw _ (List.mem_of_getElem? (i := 56) rfl))) (mvT hZ (hw _ (List.mem_of_getElem? (i := 57) rfl))) (mvT hZ (hw _ (List.mem_of_getElem? (i := 58) rfl))) (mvT hZ (hw _ (List.mem_of_getElem? (i := 59) rfl))) (by decide) (backOf (W := 0) (rm_emp1 l Z av0 hw [] a0 h0 n0 Z0 F0) hZ (hw _ (List.mem_of_getElem? (i := 60) rfl)) (hw _ (List.mem_of_getElem? (i := 2) rfl)) (by decide) (by decide)) q3a q3b q3c (g := (mkF m 32 #[.val (.ref a0), .unset] [(.ref a0)])) rfl (by rw [hml]; rfl) (Steps.refl _) (argsL := []) (rest := []) (lenOf own_pd6 rfl) rfl (by show 2 * 0 + _ ≤ _; exact Nat.le_of_eq rfl) (hb hby d8_32) (fun _ _ => ⟨rfl, e2, (by decide : 0 + 0 ≤ _), (by decide : 0 + 0 ≤ _)⟩)
  dsimp only [Pt.U, Pt.locs, Pt.cells, Pt.slots] at X3 l3 y3 z3 st3 hQ3
  subst l3 y3 z3
  obtain ⟨rfl, N3q, e3⟩ := hQ3
  have N3 := Fr.app N0 N3q
  refine OGo.of st3 ?_
  show OGo p e below _ (T3.setTop (mkF m 37 #[.val (.ref a0), .unset] [(.int (0 : Int32))]))
  refine OGo.by (fun _ k => XS.ifYes X3.here hx rfl (pc0 := 37) (pc' := 44) rfl (hb hby d8_37) rfl ((if0 _ _).trans (teq (by decide : (0 : Int32) = (0 : Int32))).1) (by decide) (by decide) k) ?_
  show OGo p e below _ (T3.setTop (mkF m 44 #[.val (.ref a0), .unset] []))
  refine OGo.by (fun _ k => XS.aloadN X3.here hx rfl (hb hby d8_44) rfl rfl k) ?_
  show OGo p e below _ (T3.setTop (mkF m 45 #[.val (.ref a0), .unset] [(.ref a0)]))
  obtain ⟨cq4, kq4, q4a, q4b, q4c⟩ := isOf hZ e3 E0
  obtain ⟨_, _, ⟨T4, L4, k4, n4⟩, -, X4, ⟨Lc4, hQ4, l4, y4, z4⟩, st4⟩ := X3.interfaceBack hx (xi := (⟨"java/util/Collection", "toArray", "()[Ljava/lang/Object;"⟩ : MethodName)) (y := (⟨"java/util/ArrayList", "toArray", "()[Ljava/lang/Object;"⟩ : MethodName)) hown (mvT hZ (hw _ (List.mem_of_getElem? (i := 173) rfl))) (mvT hZ (hw _ (List.mem_of_getElem? (i := 174) rfl))) (mvT hZ (hw _ (List.mem_of_getElem? (i := 175) rfl))) (mvT hZ (hw _ (List.mem_of_getElem? (i := 176) rfl))) (mvT hZ (hw _ (List.mem_of_getElem? (i := 177) rfl))) (mvT hZ (hw _ (List.mem_of_getElem? (i := 178) rfl))) (mvT hZ (hw _ (List.mem_of_getElem? (i := 179) rfl))) (mvT hZ (hw _ (List.mem_of_getElem? (i := 59) rfl))) (by decide) (backOf (W := 0) (rm_toa1 l Z av0 hw [] a0 d kd mr c0 h0 n0 Z0 E0 F0 F1 A_d E_d M_0 Ec0) hZ (hw _ (List.mem_of_getElem? (i := 180) rfl)) (hw _ (List.mem_of_getElem? (i := 2) rfl)) (by decide) (by decide)) q4a q4b q4c (g := (mkF m 45 #[.val (.ref a0), .unset] [(.ref a0)])) rfl (by rw [hml]; rfl) (Steps.refl _) (argsL := []) (rest := []) (lenOf own_pd3 rfl) rfl (by show 2 * 0 + _ ≤ _; exact Nat.le_of_eq rfl) (hb hby d8_45) (fun _ _ => ⟨rfl, e3, (by decide : 0 + 1 ≤ _), (by decide : 0 + 1 ≤ _)⟩)
  dsimp only [Pt.U, Pt.locs, Pt.cells, Pt.slots] at X4 l4 y4 z4 st4 hQ4
  subst l4 y4 z4
  obtain ⟨b_4, kb_4, rfl, N4q, Kc4, G4_0, G4_1, G4_2, G4_3, G4_4⟩ := hQ4
  have N4 := Fr.app N3 N4q
  have ne_a0_b_4 : a0 ≠ b_4 := Nat.ne_of_lt (Nat.lt_of_lt_of_le E0.lt G4_0)
  have ne_d_b_4 : d ≠ b_4 := Nat.ne_of_lt (Nat.lt_of_lt_of_le A_d.lt G4_0)
  have ne_c0_b_4 : c0 ≠ b_4 := Nat.ne_of_lt (Nat.lt_of_lt_of_le Ec0.lt G4_0)
  have g_b_4 : n0 ≤ b_4 := Nat.le_trans Z0 G4_0
  have sz_b_4 : h0.size ≤ b_4 := Nat.le_trans (Nat.le_refl _) G4_0
  have K4 : Keep h0 T4.heap [] := ((Keep.refl h0 [])).trans Kc4 (all0 (P := fun x => x ∈ ([] : List Addr) ∨ h0.size ≤ x))
  refine OGo.of st4 ?_
  show OGo p e below _ (T4.setTop (mkF m 50 #[.val (.ref a0), .unset] [(.ref b_4)]))
  have f6 : Exa Z T4.heap c0 "com/example/kept_inbox/keptinbox/UnreadConversation" := (Ec0.keep Kc4)
  have f7 : Old Z n0 T4.heap := (O_0.keep Kc4 all0)
  obtain ⟨_, _, ⟨T5, L5, k5, n5⟩, -, X5, ⟨Lc5, hQ5, l5, y5, z5⟩, st5⟩ := Jvm.LawKit.callS X4 hx (y := (⟨"java/util/List", "of", "([Ljava/lang/Object;)Ljava/util/List;"⟩ : MethodName)) hown (mvT hZ (hw _ (List.mem_of_getElem? (i := 203) rfl))) (mvT hZ (hw _ (List.mem_of_getElem? (i := 204) rfl))) (mvT hZ (hw _ (List.mem_of_getElem? (i := 40) rfl))) (mvT hZ (hw _ (List.mem_of_getElem? (i := 205) rfl))) (by decide) (backOf (W := 0) (rm_lof1 l Z av0 hw [] b_4 kb_4 c0 we T4.heap n0 (Nat.le_trans Z0 K4.1) G4_2 f6 f7 S_e) hZ (hw _ (List.mem_of_getElem? (i := 205) rfl)) (hw _ (List.mem_of_getElem? (i := 40) rfl)) (by decide) (by decide)) (g := (mkF m 50 #[.val (.ref a0), .unset] [(.ref b_4)])) rfl (by rw [hml]; rfl) (argsL := [(.ref b_4)]) (rest := []) (lenOf own_pd12 rfl) rfl (by show 2 * 0 + _ ≤ _; exact Nat.le_of_eq rfl) (hb hby d8_50) (fun _ _ => ⟨rfl, rfl, (by decide : 1 + 1 ≤ _), (by decide : 1 + 2 ≤ _)⟩)
  dsimp only [Pt.U, Pt.locs, Pt.cells, Pt.slots] at X5 l5 y5 z5 st5 hQ5
  subst l5 y5 z5
  obtain ⟨b_5, rfl, N5q, Kc5, G5_0, G5_1, G5_2, G5_3, G5_4⟩ := hQ5
  have N5 := Fr.app N4 N5q
  have f8 : Exa Z T4.heap a0 "java/util/ArrayList" := (E0.keep Kc4)
  have ne_a0_b_5 : a0 ≠ b_5 := Nat.ne_of_lt (Nat.lt_of_lt_of_le f8.lt G5_0)
  have f9 : Arv Z T4.heap d kd (.object "java/lang/Object") (10 : Int32) [(.ref c0), .null, .null, .null, .null, .null, .null, .null, .null, .null] .null := (A_d.keep Kc4 nin0)
  have ne_d_b_5 : d ≠ b_5 := Nat.ne_of_lt (Nat.lt_of_lt_of_le f9.lt G5_0)
  have ne_c0_b_5 : c0 ≠ b_5 := Nat.ne_of_lt (Nat.lt_of_lt_of_le f6.lt G5_0)
  have ne_b_4_b_5 : b_4 ≠ b_5 := Nat.ne_of_lt (Nat.lt_of_lt_of_le G4_2.lt G5_0)
  have g_b_5 : n0 ≤ b_5 := Nat.le_trans (Nat.le_trans Z0 K4.1) G5_0
  have sz_b_5 : h0.size ≤ b_5 := Nat.le_trans K4.1 G5_0
  have K5 : Keep h0 T5.heap [] := (K4).trans Kc5 (all0 (P := fun x => x ∈ ([] : List Addr) ∨ h0.size ≤ x))
  refine OGo.by st5 ?_
  show OGo p e below _ (T5.setTop (mkF m 53 #[.val (.ref a0), .unset] [(.ref b_5)]))
  obtain ⟨fs, hr, hrun, hended, hW, hsame⟩ := X5.leave (v := some (.ref b_5)) (fun h => by rw [Bd.returns] at h; cases h)
  refine OGo.ret (retOut X5 hx Bd.returns rfl (Or.inr (Or.inr (Or.inr (Or.inr ⟨rfl, rfl, rfl⟩)))) (hb hby d8_53) hr) hrun hended ⟨_, _, rfl, ?_, ⟨_, rfl⟩, hW, hsame.mono (by decide) (by decide)⟩
  show Q_rm_lc1 Z a0 d kd mr c0 we h0 n0 _ T5.heap _
  exact ⟨b_5, rfl, N5, K5, sz_b_5, g_b_5, G5_2, G5_3, G5_4⟩
theorem ef_rm_co1 (m : MethodId) (a0 : Addr) : entryFrame m #[(.ref a0)] 1 = mkF m 0 #[.val (.ref a0)] [] := by first | (simp [entryFrame, mkF, argsToLocals, Value.category]; done) | rfl
def Q_rm_co1 (Z : State) (a0 : Addr) (d : Addr) (kd : ClassId) (mr : Addr) (c0 : Addr) (we : Addr) (h0 : Heap) (n0 : Nat) (v : Option Value) (h : Heap) (L : List Loc) : Prop := ∃ b : Addr, v = some (.ref b) ∧ Fr n0 L ∧ Keep h0 h [] ∧ (h0.size ≤ b) ∧ (n0 ≤ b) ∧ (Exa Z h b "java/util/ImmutableCollections$List12") ∧ (Fld Z h b "java/util/ImmutableCollections$List12" "e0" "Ljava/lang/Object;" (.ref c0)) ∧ (Fld Z h b "java/util/ImmutableCollections$List12" "e1" "Ljava/lang/Object;" (.ref we))
set_option maxRecDepth 65536 in
set_option maxHeartbeats 40000000 in
theorem rm_co1 (l : Launch) (Z : State) (av0 : Array Value) (hw : ∀ d ∈ tables_1, d.before av0 Z = true) (ws : List Jvm.Cond) (a0 : Addr) (d : Addr) (kd : ClassId) (mr : Addr) (c0 : Addr) (we : Addr) (h0 : Heap) (n0 : Nat) (Z0 : n0 ≤ h0.size) (E0 : Exa Z h0 a0 "java/util/ArrayList") (F0 : Fld Z h0 a0 "java/util/ArrayList" "size" "I" (.int (1 : Int32))) (F1 : Fld Z h0 a0 "java/util/ArrayList" "elementData" "[Ljava/lang/Object;" (.ref d)) (A_d : Arv Z h0 d kd (.object "java/lang/Object") (10 : Int32) [(.ref c0), .null, .null, .null, .null, .null, .null, .null, .null, .null] .null) (E_d : Exa Z h0 d "[Ljava/lang/Object;") (M_0 : Mir Z "[Ljava/lang/Object;" mr) (Ec0 : Exa Z h0 c0 "com/example/kept_inbox/keptinbox/UnreadConversation") (O_0 : Old Z n0 h0) (S_e : Sta Z Z.heap "java/util/ImmutableCollections" "EMPTY" "Ljava/lang/Object;" (.ref we)) :
    MetFree l (⟨"java/util/List", "copyOf", "(Ljava/util/Collection;)Ljava/util/List;"⟩ : MethodName) (head1 (Jvm.Cond.code (⟨"java/util/List", "copyOf", "(Ljava/util/Collection;)Ljava/util/List;"⟩ : MethodName) jdk_40_method_48_code 1 (some (.object "java/util/List")) :: ws) ({ frames := 7, cells := 2, slots := 3, locals := 88 } : Room)) (fun a U => a = #[(.ref a0)] ∧ Z.Warmed39 U.vm ∧ U.heap = h0) (fun _ _ _ _ _ => True) (fun _ U o U' => ∃ v L, o = .returned v ∧ Q_rm_co1 Z a0 d kd mr c0 we h0 n0 v U'.heap L ∧ FrameEnd U o U' L ({ frames := 7, cells := 2, slots := 3, locals := 88 } : Room).cells ({ frames := 7, cells := 2, slots := 3, locals := 88 } : Room).slots) := by
  refine MetFree.of_bodySF (plainFor_of_name own_pn7) hisR ?_
  intro p e s m args below meth c s₁ Bd hml0 hP hK
  obtain ⟨rfl, hZ, hh⟩ := hP
  have hx := Bd.exec
  have hby := Bd.bytes
  have hml : c.maxLocals = 1 := hml0
  have hown : s.vm.findClass "java/util/List" = some m.cls := findClass_of_methodNamed Bd.named
  have hnm := (name_of_methodNamed Bd.named Bd.method).1
  have X0 : Stand p l e ({ frames := 7, cells := 2, slots := 3, locals := 88 } : Room) s m #[(.ref a0)] below meth c s₁ [] 0 0 := Stand.of_body Bd
  have e0 : s₁.heap = h0 := by rw [← hh, Bd.state]; rfl
  have N0 := Fr.nil n0
  refine OGo.by (P := fun U' o => ∃ v L, o = .returned v ∧ Q_rm_co1 Z a0 d kd mr c0 we h0 n0 v U'.heap L ∧ FrameEnd s o U' L ({ frames := 7, cells := 2, slots := 3, locals := 88 } : Room).cells ({ frames := 7, cells := 2, slots := 3, locals := 88 } : Room).slots) (fun T_ k_ => castTop (ef_rm_co1 m a0) k_) ?_
  show OGo p e below _ (s₁.setTop (mkF m 0 #[.val (.ref a0)] []))
  refine OGo.by (fun _ k => XS.aloadN X0.here hx rfl (hb hby d7_0) rfl rfl k) ?_
  show OGo p e below _ (s₁.setTop (mkF m 1 #[.val (.ref a0)] [(.ref a0)]))
  obtain ⟨_, _, ⟨T1, L1, k1, n1⟩, -, X1, ⟨Lc1, hQ1, l1, y1, z1⟩, st1⟩ := Jvm.LawKit.callS X0 hx (y := (⟨"java/util/ImmutableCollections", "listCopy", "(Ljava/util/Collection;)Ljava/util/List;"⟩ : MethodName)) hown (mvT hZ (hw _ (List.mem_of_getElem? (i := 42) rfl))) (mvT hZ (hw _ (List.mem_of_getElem? (i := 43) rfl))) (mvT hZ (hw _ (List.mem_of_getElem? (i := 44) rfl))) (mvT hZ (hw _ (List.mem_of_getElem? (i := 45) rfl))) (by decide) (backOf (W := 0) (rm_lc1 l Z av0 hw [] a0 d kd mr c0 we h0 n0 Z0 E0 F0 F1 A_d E_d M_0 Ec0 O_0 S_e) hZ (hw _ (List.mem_of_getElem? (i := 45) rfl)) (hw _ (List.mem_of_getElem? (i := 44) rfl)) (by decide) (by decide)) (g := (mkF m 1 #[.val (.ref a0)] [(.ref a0)])) rfl (by rw [hml]; rfl) (argsL := [(.ref a0)]) (rest := []) (lenOf own_pd8 rfl) rfl (by show 2 * 0 + _ ≤ _; exact Nat.le_of_eq rfl) (hb hby d7_1) (fun _ _ => ⟨rfl, e0, (by decide : 0 + 2 ≤ _), (by decide : 0 + 3 ≤ _)⟩)
  dsimp only [Pt.U, Pt.locs, Pt.cells, Pt.slots] at X1 l1 y1 z1 st1 hQ1
  subst l1 y1 z1
  obtain ⟨b_1, rfl, N1q, Kc1, G1_0, G1_1, G1_2, G1_3, G1_4⟩ := hQ1
  have N1 := Fr.app N0 N1q
  have ne_a0_b_1 : a0 ≠ b_1 := Nat.ne_of_lt (Nat.lt_of_lt_of_le E0.lt G1_0)
  have ne_d_b_1 : d ≠ b_1 := Nat.ne_of_lt (Nat.lt_of_lt_of_le A_d.lt G1_0)
  have ne_c0_b_1 : c0 ≠ b_1 := Nat.ne_of_lt (Nat.lt_of_lt_of_le Ec0.lt G1_0)
  have g_b_1 : n0 ≤ b_1 := Nat.le_trans Z0 G1_0
  have sz_b_1 : h0.size ≤ b_1 := Nat.le_trans (Nat.le_refl _) G1_0
  have K1 : Keep h0 T1.heap [] := ((Keep.refl h0 [])).trans Kc1 (all0 (P := fun x => x ∈ ([] : List Addr) ∨ h0.size ≤ x))
  refine OGo.by st1 ?_
  show OGo p e below _ (T1.setTop (mkF m 4 #[.val (.ref a0)] [(.ref b_1)]))
  obtain ⟨fs, hr, hrun, hended, hW, hsame⟩ := X1.leave (v := some (.ref b_1)) (fun h => by rw [Bd.returns] at h; cases h)
  refine OGo.ret (retOut X1 hx Bd.returns rfl (Or.inr (Or.inr (Or.inr (Or.inr ⟨rfl, rfl, rfl⟩)))) (hb hby d7_4) hr) hrun hended ⟨_, _, rfl, ?_, ⟨_, rfl⟩, hW, hsame.mono (by decide) (by decide)⟩
  show Q_rm_co1 Z a0 d kd mr c0 we h0 n0 _ T1.heap _
  exact ⟨b_1, rfl, N1, K1, sz_b_1, g_b_1, G1_2, G1_3, G1_4⟩
theorem ef_rm_un1 (m : MethodId) (a0 : Addr) (a1 : Addr) : entryFrame m #[(.ref a0), (.ref a1)] 2 = mkF m 0 #[.val (.ref a0), .val (.ref a1)] [] := by first | (simp [entryFrame, mkF, argsToLocals, Value.category]; done) | rfl
def Q_rm_un1 (Z : State) (a0 : Addr) (a1 : Addr) (d : Addr) (kd : ClassId) (mr : Addr) (c0 : Addr) (we : Addr) (h0 : Heap) (n0 : Nat) (v : Option Value) (h : Heap) (L : List Loc) : Prop := ∃ b : Addr, v = none ∧ Fr n0 L ∧ Keep h0 h [a0] ∧ (h0.size ≤ b) ∧ (n0 ≤ b) ∧ (Exa Z h b "java/util/ImmutableCollections$List12") ∧ (Fld Z h b "java/util/ImmutableCollections$List12" "e0" "Ljava/lang/Object;" (.ref c0)) ∧ (Fld Z h b "java/util/ImmutableCollections$List12" "e1" "Ljava/lang/Object;" (.ref we)) ∧ (Exa Z h a0 "com/example/kept_inbox/keptinbox/Unread") ∧ (Fld Z h a0 "com/example/kept_inbox/keptinbox/Unread" "conversations" "Ljava/util/List;" (.ref b))
set_option maxRecDepth 65536 in
set_option maxHeartbeats 40000000 in
theorem rm_un1 (l : Launch) (Z : State) (av0 : Array Value) (hw : ∀ d ∈ tables_1, d.before av0 Z = true) (ws : List Jvm.Cond) (a0 : Addr) (a1 : Addr) (d : Addr) (kd : ClassId) (mr : Addr) (c0 : Addr) (we : Addr) (h0 : Heap) (n0 : Nat) (Z0 : n0 ≤ h0.size) (E0 : Exa Z h0 a1 "java/util/ArrayList") (F0 : Fld Z h0 a1 "java/util/ArrayList" "size" "I" (.int (1 : Int32))) (F1 : Fld Z h0 a1 "java/util/ArrayList" "elementData" "[Ljava/lang/Object;" (.ref d)) (A_d : Arv Z h0 d kd (.object "java/lang/Object") (10 : Int32) [(.ref c0), .null, .null, .null, .null, .null, .null, .null, .null, .null] .null) (E_d : Exa Z h0 d "[Ljava/lang/Object;") (M_0 : Mir Z "[Ljava/lang/Object;" mr) (Ec0 : Exa Z h0 c0 "com/example/kept_inbox/keptinbox/UnreadConversation") (O_0 : Old Z n0 h0) (S_e : Sta Z Z.heap "java/util/ImmutableCollections" "EMPTY" "Ljava/lang/Object;" (.ref we)) (E1 : Exa Z h0 a0 "com/example/kept_inbox/keptinbox/Unread") (F9 : Fld Z h0 a0 "com/example/kept_inbox/keptinbox/Unread" "conversations" "Ljava/util/List;" .null) (g_a0 : n0 ≤ a0) :
    MetFree l (⟨"com/example/kept_inbox/keptinbox/Unread", "<init>", "(Ljava/util/List;)V"⟩ : MethodName) (head1 (Jvm.Cond.code (⟨"com/example/kept_inbox/keptinbox/Unread", "<init>", "(Ljava/util/List;)V"⟩ : MethodName) prog_7_method_1_code 2 none :: ws) ({ frames := 8, cells := 2, slots := 3, locals := 100 } : Room)) (fun a U => a = #[(.ref a0), (.ref a1)] ∧ Z.Warmed39 U.vm ∧ U.heap = h0) (fun _ _ _ _ _ => True) (fun _ U o U' => ∃ v L, o = .returned v ∧ Q_rm_un1 Z a0 a1 d kd mr c0 we h0 n0 v U'.heap L ∧ FrameEnd U o U' L ({ frames := 8, cells := 2, slots := 3, locals := 100 } : Room).cells ({ frames := 8, cells := 2, slots := 3, locals := 100 } : Room).slots) := by
  refine MetFree.of_bodySF (plainFor_of_name own_pn5) hisR ?_
  intro p e s m args below meth c s₁ Bd hml0 hP hK
  obtain ⟨rfl, hZ, hh⟩ := hP
  have hx := Bd.exec
  have hby := Bd.bytes
  have hml : c.maxLocals = 2 := hml0
  have hown : s.vm.findClass "com/example/kept_inbox/keptinbox/Unread" = some m.cls := findClass_of_methodNamed Bd.named
  have hnm := (name_of_methodNamed Bd.named Bd.method).1
  have X0 : Stand p l e ({ frames := 8, cells := 2, slots := 3, locals := 100 } : Room) s m #[(.ref a0), (.ref a1)] below meth c s₁ [] 0 0 := Stand.of_body Bd
  have e0 : s₁.heap = h0 := by rw [← hh, Bd.state]; rfl
  have N0 := Fr.nil n0
  refine OGo.by (P := fun U' o => ∃ v L, o = .returned v ∧ Q_rm_un1 Z a0 a1 d kd mr c0 we h0 n0 v U'.heap L ∧ FrameEnd s o U' L ({ frames := 8, cells := 2, slots := 3, locals := 100 } : Room).cells ({ frames := 8, cells := 2, slots := 3, locals := 100 } : Room).slots) (fun T_ k_ => castTop (ef_rm_un1 m a0 a1) k_) ?_
  show OGo p e below _ (s₁.setTop (mkF m 0 #[.val (.ref a0), .val (.ref a1)] []))
  refine OGo.by (fun _ k => XS.aloadN X0.here hx rfl (hb hby d5_0) rfl rfl k) ?_
  show OGo p e below _ (s₁.setTop (mkF m 1 #[.val (.ref a0), .val (.ref a1)] [(.ref a0)]))
  obtain ⟨_, _, ⟨T1, L1, k1, n1⟩, -, X1, ⟨Lc1, hQ1, l1, y1, z1⟩, st1⟩ := X0.specialBack hx (y := (⟨"java/lang/Record", "<init>", "()V"⟩ : MethodName)) rfl hown (mvT hZ (hw _ (List.mem_of_getElem? (i := 32) rfl))) (mvT hZ (hw _ (List.mem_of_getElem? (i := 33) rfl))) (mvT hZ (hw _ (List.mem_of_getElem? (i := 36) rfl))) (by decide) (backOf (W := 0) (rm6 l Z av0 hw [] a0 h0 n0 Z0) hZ (hw _ (List.mem_of_getElem? (i := 36) rfl)) (hw _ (List.mem_of_getElem? (i := 35) rfl)) (by decide) (by decide)) (g := (mkF m 1 #[.val (.ref a0), .val (.ref a1)] [(.ref a0)])) rfl (by rw [hml]; rfl) (Steps.refl _) (a := a0) (argsL := []) (rest := []) (lenOf own_pd0 rfl) rfl (by show 2 * 0 + _ ≤ _; exact Nat.le_of_eq rfl) (hb hby d5_1) (fun _ _ => ⟨rfl, e0, (by decide : 0 + 0 ≤ _), (by decide : 0 + 0 ≤ _)⟩)
  dsimp only [Pt.U, Pt.locs, Pt.cells, Pt.slots] at X1 l1 y1 z1 st1 hQ1
  subst l1 y1 z1
  obtain ⟨rfl, N1q, e1⟩ := hQ1
  have N1 := Fr.app N0 N1q
  refine OGo.of st1 ?_
  show OGo p e below _ (T1.setTop (mkF m 4 #[.val (.ref a0), .val (.ref a1)] []))
  refine OGo.by (fun _ k => XS.aloadN X1.here hx rfl (hb hby d5_4) rfl rfl k) ?_
  show OGo p e below _ (T1.setTop (mkF m 5 #[.val (.ref a0), .val (.ref a1)] [(.ref a1)]))
  obtain ⟨_, _, ⟨T2, L2, k2, n2⟩, -, X2, ⟨Lc2, hQ2, l2, y2, z2⟩, st2⟩ := Jvm.LawKit.callS X1 hx (y := (⟨"java/util/List", "copyOf", "(Ljava/util/Collection;)Ljava/util/List;"⟩ : MethodName)) hown (mvT hZ (hw _ (List.mem_of_getElem? (i := 38) rfl))) (mvT hZ (hw _ (List.mem_of_getElem? (i := 39) rfl))) (mvT hZ (hw _ (List.mem_of_getElem? (i := 40) rfl))) (mvT hZ (hw _ (List.mem_of_getElem? (i := 41) rfl))) (by decide) (backOf (W := 0) (rm_co1 l Z av0 hw [] a1 d kd mr c0 we h0 n0 Z0 E0 F0 F1 A_d E_d M_0 Ec0 O_0 S_e) hZ (hw _ (List.mem_of_getElem? (i := 41) rfl)) (hw _ (List.mem_of_getElem? (i := 40) rfl)) (by decide) (by decide)) (g := (mkF m 5 #[.val (.ref a0), .val (.ref a1)] [(.ref a1)])) rfl (by rw [hml]; rfl) (argsL := [(.ref a1)]) (rest := []) (lenOf own_pd8 rfl) rfl (by show 2 * 0 + _ ≤ _; exact Nat.le_of_eq rfl) (hb hby d5_5) (fun _ _ => ⟨rfl, e1, (by decide : 0 + 2 ≤ _), (by decide : 0 + 3 ≤ _)⟩)
  dsimp only [Pt.U, Pt.locs, Pt.cells, Pt.slots] at X2 l2 y2 z2 st2 hQ2
  subst l2 y2 z2
  obtain ⟨b_2, rfl, N2q, Kc2, G2_0, G2_1, G2_2, G2_3, G2_4⟩ := hQ2
  have N2 := Fr.app N1 N2q
  have ne_a1_b_2 : a1 ≠ b_2 := Nat.ne_of_lt (Nat.lt_of_lt_of_le E0.lt G2_0)
  have ne_d_b_2 : d ≠ b_2 := Nat.ne_of_lt (Nat.lt_of_lt_of_le A_d.lt G2_0)
  have ne_c0_b_2 : c0 ≠ b_2 := Nat.ne_of_lt (Nat.lt_of_lt_of_le Ec0.lt G2_0)
  have ne_a0_b_2 : a0 ≠ b_2 := Nat.ne_of_lt (Nat.lt_of_lt_of_le E1.lt G2_0)
  have g_b_2 : n0 ≤ b_2 := Nat.le_trans Z0 G2_0
  have sz_b_2 : h0.size ≤ b_2 := Nat.le_trans (Nat.le_refl _) G2_0
  have K2 : Keep h0 T2.heap [a0] := ((Keep.refl h0 [a0])).trans Kc2 (all0 (P := fun x => x ∈ ([a0] : List Addr) ∨ h0.size ≤ x))
  refine OGo.by st2 ?_
  show OGo p e below _ (T2.setTop (mkF m 8 #[.val (.ref a0), .val (.ref a1)] [(.ref b_2)]))
  refine OGo.by (fun _ k => XS.astoreN X2.here hx rfl (hb hby d5_8) rfl rfl (l' := #[.val (.ref a0), .val (.ref b_2)]) rfl k) ?_
  show OGo p e below _ (T2.setTop (mkF m 9 #[.val (.ref a0), .val (.ref b_2)] []))
  refine OGo.by (fun _ k => XS.aloadN X2.here hx rfl (hb hby d5_9) rfl rfl k) ?_
  show OGo p e below _ (T2.setTop (mkF m 10 #[.val (.ref a0), .val (.ref b_2)] [(.ref a0)]))
  refine OGo.by (fun _ k => XS.aloadN X2.here hx rfl (hb hby d5_10) rfl rfl k) ?_
  show OGo p e below _ (T2.setTop (mkF m 11 #[.val (.ref a0), .val (.ref b_2)] [(.ref b_2), (.ref a0)]))
  have f3 : Exa Z T2.heap a0 "com/example/kept_inbox/keptinbox/Unread" := (E1.keep Kc2)
  have f4 : Fld Z T2.heap a0 "com/example/kept_inbox/keptinbox/Unread" "conversations" "Ljava/util/List;" .null := (F9.keep Kc2 nin0)
  obtain ⟨T5, h5, X5, e5, W5, st5⟩ := putF X2 hx hZ hown (host := "") (Or.inl (hw _ (List.mem_of_getElem? (i := 67) rfl))) Via.refl rfl f4 f3 (Or.inr ⟨(hw _ (List.mem_of_getElem? (i := 68) rfl)), rfl, hnm⟩) (hw _ (List.mem_of_getElem? (i := 27) rfl)) (ty := (.object "java/util/List")) (by decide) rfl rfl (g := (mkF m 11 #[.val (.ref a0), .val (.ref b_2)] [(.ref b_2), (.ref a0)])) rfl rfl (hb hby d5_11)
  refine OGo.by st5 ?_
  have Fw5 := f4.same W5
  have N5 := Fr.snoc X5 N2 g_a0
  have K5 : Keep h0 h5 [a0] := (K2).wr W5 (Or.inl (List.mem_of_getElem? (i := 0) rfl))
  show OGo p e below _ (T5.setTop (mkF m 14 #[.val (.ref a0), .val (.ref b_2)] []))
  obtain ⟨fs, hr, hrun, hended, hW, hsame⟩ := X5.leave (v := none) (fun _ => rfl)
  refine OGo.ret (X5.returnOut hx Bd.returns (hb hby d5_14) hr) hrun hended ⟨_, _, rfl, ?_, ⟨_, rfl⟩, hW, hsame.mono (by decide) (by decide)⟩
  show Q_rm_un1 Z a0 a1 d kd mr c0 we h0 n0 _ T5.heap _
  rw [e5]
  have f6 : Exa Z h5 b_2 "java/util/ImmutableCollections$List12" := (G2_2.wr W5)
  have f7 : Fld Z h5 b_2 "java/util/ImmutableCollections$List12" "e0" "Ljava/lang/Object;" (.ref c0) := (G2_3.other W5 (Or.inl (Ne.symm ne_a0_b_2)))
  have f8 : Fld Z h5 b_2 "java/util/ImmutableCollections$List12" "e1" "Ljava/lang/Object;" (.ref we) := (G2_4.other W5 (Or.inl (Ne.symm ne_a0_b_2)))
  have f9 : Exa Z h5 a0 "com/example/kept_inbox/keptinbox/Unread" := (f3.wr W5)
  exact ⟨b_2, rfl, N5, K5, sz_b_2, g_b_2, f6, f7, f8, f9, Fw5⟩
theorem ef_rm_emp2 (m : MethodId) (a0 : Addr) : entryFrame m #[(.ref a0)] 1 = mkF m 0 #[.val (.ref a0)] [] := by first | (simp [entryFrame, mkF, argsToLocals, Value.category]; done) | rfl
def Q_rm_emp2 (Z : State) (a0 : Addr) (h0 : Heap) (n0 : Nat) (v : Option Value) (h : Heap) (L : List Loc) : Prop := v = some (.int (0 : Int32)) ∧ Fr n0 L ∧ h = h0
set_option maxRecDepth 65536 in
set_option maxHeartbeats 40000000 in
theorem rm_emp2 (l : Launch) (Z : State) (av0 : Array Value) (hw : ∀ d ∈ tables_1, d.before av0 Z = true) (ws : List Jvm.Cond) (a0 : Addr) (h0 : Heap) (n0 : Nat) (Z0 : n0 ≤ h0.size) (F0 : Fld Z h0 a0 "java/util/ArrayList" "size" "I" (.int (2 : Int32))) :
    MetFree l (⟨"java/util/ArrayList", "isEmpty", "()Z"⟩ : MethodName) (head1 (Jvm.Cond.code (⟨"java/util/ArrayList", "isEmpty", "()Z"⟩ : MethodName) jdk_38_method_9_code 1 (some .boolean) :: ws) ({ frames := 0, cells := 0, slots := 0, locals := 0 } : Room)) (fun a U => a = #[(.ref a0)] ∧ Z.Warmed39 U.vm ∧ U.heap = h0) (fun _ _ _ _ _ => True) (fun _ U o U' => ∃ v L, o = .returned v ∧ Q_rm_emp2 Z a0 h0 n0 v U'.heap L ∧ FrameEnd U o U' L ({ frames := 0, cells := 0, slots := 0, locals := 0 } : Room).cells ({ frames := 0, cells := 0, slots := 0, locals := 0 } : Room).slots) := by
  refine MetFree.of_bodySF (plainFor_of_name own_pn9) hisR ?_
  intro p e s m args below meth c s₁ Bd hml0 hP hK
  obtain ⟨rfl, hZ, hh⟩ := hP
  have hx := Bd.exec
  have hby := Bd.bytes
  have hml : c.maxLocals = 1 := hml0
  have hown : s.vm.findClass "java/util/ArrayList" = some m.cls := findClass_of_methodNamed Bd.named
  have hnm := (name_of_methodNamed Bd.named Bd.method).1
  have X0 : Stand p l e ({ frames := 0, cells := 0, slots := 0, locals := 0 } : Room) s m #[(.ref a0)] below meth c s₁ [] 0 0 := Stand.of_body Bd
  have e0 : s₁.heap = h0 := by rw [← hh, Bd.state]; rfl
  have N0 := Fr.nil n0
  refine OGo.by (P := fun U' o => ∃ v L, o = .returned v ∧ Q_rm_emp2 Z a0 h0 n0 v U'.heap L ∧ FrameEnd s o U' L ({ frames := 0, cells := 0, slots := 0, locals := 0 } : Room).cells ({ frames := 0, cells := 0, slots := 0, locals := 0 } : Room).slots) (fun T_ k_ => castTop (ef_rm_emp2 m a0) k_) ?_
  show OGo p e below _ (s₁.setTop (mkF m 0 #[.val (.ref a0)] []))
  refine OGo.by (fun _ k => XS.aloadN X0.here hx rfl (hb hby d9_0) rfl rfl k) ?_
  show OGo p e below _ (s₁.setTop (mkF m 1 #[.val (.ref a0)] [(.ref a0)]))
  obtain ⟨T1, X1, e1, st1⟩ := getF X0 hx hZ hown (host := "") (Or.inl (hw _ (List.mem_of_getElem? (i := 61) rfl))) Via.refl e0 F0 (g := (mkF m 1 #[.val (.ref a0)] [(.ref a0)])) rfl rfl (hb hby d9_1)
  refine OGo.by st1 ?_
  show OGo p e below _ (T1.setTop (mkF m 4 #[.val (.ref a0)] [(.int (2 : Int32))]))
  refine OGo.by (fun _ k => XS.ifYes X1.here hx rfl (pc0 := 4) (pc' := 11) rfl (hb hby d9_4) rfl ((if0 _ _).trans (feq (by decide : ¬ ((2 : Int32) = (0 : Int32)))).2) (by decide) (by decide) k) ?_
  show OGo p e below _ (T1.setTop (mkF m 11 #[.val (.ref a0)] []))
  refine OGo.by (fun _ k => XS.iconst X1.here hx rfl (hb hby d9_11) k) ?_
  show OGo p e below _ (T1.setTop (mkF m 12 #[.val (.ref a0)] [(.int (0 : Int32))]))
  obtain ⟨fs, hr, hrun, hended, hW, hsame⟩ := X1.leave (v := some (.int (0 : Int32))) (fun h => by rw [Bd.returns] at h; cases h)
  refine OGo.ret (retN X1 hx (t := .boolean) Bd.returns (by simp) (hb hby d9_12) hr) hrun hended ⟨_, _, rfl, ?_, ⟨_, rfl⟩, hW, hsame.mono (by decide) (by decide)⟩
  show Q_rm_emp2 Z a0 h0 n0 _ T1.heap _
  rw [e1]
  exact ⟨rfl, N0, rfl⟩
theorem ef_rm_min2 (m : MethodId)  : entryFrame m #[(.int (10 : Int32)), (.int (2 : Int32))] 2 = mkF m 0 #[.val (.int (10 : Int32)), .val (.int (2 : Int32))] [] := by first | (simp [entryFrame, mkF, argsToLocals, Value.category]; done) | rfl
def Q_rm_min2 (Z : State)  (h0 : Heap) (n0 : Nat) (v : Option Value) (h : Heap) (L : List Loc) : Prop := v = some (.int (2 : Int32)) ∧ Fr n0 L ∧ h = h0
set_option maxRecDepth 65536 in
set_option maxHeartbeats 40000000 in
theorem rm_min2 (l : Launch) (Z : State) (av0 : Array Value) (hw : ∀ d ∈ tables_1, d.before av0 Z = true) (ws : List Jvm.Cond)  (h0 : Heap) (n0 : Nat) (Z0 : n0 ≤ h0.size) :
    MetFree l (⟨"java/lang/Math", "min", "(II)I"⟩ : MethodName) (head1 (Jvm.Cond.code (⟨"java/lang/Math", "min", "(II)I"⟩ : MethodName) jdk_29_method_69_code 2 (some .int) :: ws) ({ frames := 0, cells := 0, slots := 0, locals := 0 } : Room)) (fun a U => a = #[(.int (10 : Int32)), (.int (2 : Int32))] ∧ Z.Warmed39 U.vm ∧ U.heap = h0) (fun _ _ _ _ _ => True) (fun _ U o U' => ∃ v L, o = .returned v ∧ Q_rm_min2 Z  h0 n0 v U'.heap L ∧ FrameEnd U o U' L ({ frames := 0, cells := 0, slots := 0, locals := 0 } : Room).cells ({ frames := 0, cells := 0, slots := 0, locals := 0 } : Room).slots) := by
  refine MetFree.of_bodySF (Jvm.Free.JP.mathPlain rfl (by decide +kernel)) hisR ?_
  intro p e s m args below meth c s₁ Bd hml0 hP hK
  obtain ⟨rfl, hZ, hh⟩ := hP
  have hx := Bd.exec
  have hby := Bd.bytes
  have hml : c.maxLocals = 2 := hml0
  have hown : s.vm.findClass "java/lang/Math" = some m.cls := findClass_of_methodNamed Bd.named
  have hnm := (name_of_methodNamed Bd.named Bd.method).1
  have X0 : Stand p l e ({ frames := 0, cells := 0, slots := 0, locals := 0 } : Room) s m #[(.int (10 : Int32)), (.int (2 : Int32))] below meth c s₁ [] 0 0 := Stand.of_body Bd
  have e0 : s₁.heap = h0 := by rw [← hh, Bd.state]; rfl
  have N0 := Fr.nil n0
  refine OGo.by (P := fun U' o => ∃ v L, o = .returned v ∧ Q_rm_min2 Z  h0 n0 v U'.heap L ∧ FrameEnd s o U' L ({ frames := 0, cells := 0, slots := 0, locals := 0 } : Room).cells ({ frames := 0, cells := 0, slots := 0, locals := 0 } : Room).slots) (fun T_ k_ => castTop (ef_rm_min2 m ) k_) ?_
  show OGo p e below _ (s₁.setTop (mkF m 0 #[.val (.int (10 : Int32)), .val (.int (2 : Int32))] []))
  refine OGo.by (fun _ k => XS.iloadN X0.here hx rfl (hb hby d25_0) rfl k) ?_
  show OGo p e below _ (s₁.setTop (mkF m 1 #[.val (.int (10 : Int32)), .val (.int (2 : Int32))] [(.int (10 : Int32))]))
  refine OGo.by (fun _ k => XS.iloadN X0.here hx rfl (hb hby d25_1) rfl k) ?_
  show OGo p e below _ (s₁.setTop (mkF m 2 #[.val (.int (10 : Int32)), .val (.int (2 : Int32))] [(.int (2 : Int32)), (.int (10 : Int32))]))
  refine OGo.by (fun _ k => XS.icmpYes X0.here hx rfl (pc0 := 2) (pc' := 9) rfl (hb hby d25_2) rfl (tlt (by decide : (2 : Int32) < (10 : Int32))).2.2.1 (by decide) (by decide) k) ?_
  show OGo p e below _ (s₁.setTop (mkF m 9 #[.val (.int (10 : Int32)), .val (.int (2 : Int32))] []))
  refine OGo.by (fun _ k => XS.iloadN X0.here hx rfl (hb hby d25_9) rfl k) ?_
  show OGo p e below _ (s₁.setTop (mkF m 10 #[.val (.int (10 : Int32)), .val (.int (2 : Int32))] [(.int (2 : Int32))]))
  obtain ⟨fs, hr, hrun, hended, hW, hsame⟩ := X0.leave (v := some (.int (2 : Int32))) (fun h => by rw [Bd.returns] at h; cases h)
  refine OGo.ret (retI X0 hx Bd.returns (hb hby d25_10) hr) hrun hended ⟨_, _, rfl, ?_, ⟨_, rfl⟩, hW, hsame.mono (by decide) (by decide)⟩
  show Q_rm_min2 Z  h0 n0 _ s₁.heap _
  rw [e0]
  exact ⟨rfl, N0, rfl⟩
theorem ef_rm_cp3_2 (m : MethodId) (a0 : Addr) (kd : ClassId) (mr : Addr) (c0 : Addr) (c1 : Addr) : entryFrame m #[(.ref a0), (.int (2 : Int32)), (.ref mr)] 4 = mkF m 0 #[.val (.ref a0), .val (.int (2 : Int32)), .val (.ref mr), .unset] [] := by first | (simp [entryFrame, mkF, argsToLocals, Value.category]; done) | rfl
def Q_rm_cp3_2 (Z : State) (a0 : Addr) (kd : ClassId) (mr : Addr) (c0 : Addr) (c1 : Addr) (h0 : Heap) (n0 : Nat) (v : Option Value) (h : Heap) (L : List Loc) : Prop := ∃ b : Addr, ∃ kb : ClassId, v = some (.ref b) ∧ Fr n0 L ∧ Keep h0 h [] ∧ (h0.size ≤ b) ∧ (n0 ≤ b) ∧ (Arv Z h b kb (.object "java/lang/Object") (2 : Int32) [(.ref c0), (.ref c1)] .null) ∧ (Exa Z h b "[Ljava/lang/Object;") ∧ (Ovr Z kb "java/lang/Object")
set_option maxRecDepth 65536 in
set_option maxHeartbeats 40000000 in
theorem rm_cp3_2 (l : Launch) (Z : State) (av0 : Array Value) (hw : ∀ d ∈ tables_1, d.before av0 Z = true) (ws : List Jvm.Cond) (a0 : Addr) (kd : ClassId) (mr : Addr) (c0 : Addr) (c1 : Addr) (h0 : Heap) (n0 : Nat) (Z0 : n0 ≤ h0.size) (A_d : Arv Z h0 a0 kd (.object "java/lang/Object") (10 : Int32) [(.ref c0), (.ref c1), .null, .null, .null, .null, .null, .null, .null, .null] .null) (E_d : Exa Z h0 a0 "[Ljava/lang/Object;") (M_0 : Mir Z "[Ljava/lang/Object;" mr) (Ec0 : Exa Z h0 c0 "com/example/kept_inbox/keptinbox/UnreadConversation") (Ec1 : Exa Z h0 c1 "com/example/kept_inbox/keptinbox/UnreadConversation") :
    MetFree l (⟨"java/util/Arrays", "copyOf", "([Ljava/lang/Object;ILjava/lang/Class;)[Ljava/lang/Object;"⟩ : MethodName) (head1 (Jvm.Cond.code (⟨"java/util/Arrays", "copyOf", "([Ljava/lang/Object;ILjava/lang/Class;)[Ljava/lang/Object;"⟩ : MethodName) jdk_65_method_120_code 4 (some (.array (.object "java/lang/Object"))) :: ws) ({ frames := 1, cells := 1, slots := 2, locals := 18 } : Room)) (fun a U => a = #[(.ref a0), (.int (2 : Int32)), (.ref mr)] ∧ Z.Warmed39 U.vm ∧ U.heap = h0) (fun _ _ _ _ _ => True) (fun _ U o U' => ∃ v L, o = .returned v ∧ Q_rm_cp3_2 Z a0 kd mr c0 c1 h0 n0 v U'.heap L ∧ FrameEnd U o U' L ({ frames := 1, cells := 1, slots := 2, locals := 18 } : Room).cells ({ frames := 1, cells := 1, slots := 2, locals := 18 } : Room).slots) := by
  refine MetFree.of_bodySF (plainFor_of_name own_pn24) hisR ?_
  intro p e s m args below meth c s₁ Bd hml0 hP hK
  obtain ⟨rfl, hZ, hh⟩ := hP
  have hx := Bd.exec
  have hby := Bd.bytes
  have hml : c.maxLocals = 4 := hml0
  have hown : s.vm.findClass "java/util/Arrays" = some m.cls := findClass_of_methodNamed Bd.named
  have hnm := (name_of_methodNamed Bd.named Bd.method).1
  have X0 : Stand p l e ({ frames := 1, cells := 1, slots := 2, locals := 18 } : Room) s m #[(.ref a0), (.int (2 : Int32)), (.ref mr)] below meth c s₁ [] 0 0 := Stand.of_body Bd
  have e0 : s₁.heap = h0 := by rw [← hh, Bd.state]; rfl
  have N0 := Fr.nil n0
  refine OGo.by (P := fun U' o => ∃ v L, o = .returned v ∧ Q_rm_cp3_2 Z a0 kd mr c0 c1 h0 n0 v U'.heap L ∧ FrameEnd s o U' L ({ frames := 1, cells := 1, slots := 2, locals := 18 } : Room).cells ({ frames := 1, cells := 1, slots := 2, locals := 18 } : Room).slots) (fun T_ k_ => castTop (ef_rm_cp3_2 m a0 kd mr c0 c1) k_) ?_
  show OGo p e below _ (s₁.setTop (mkF m 0 #[.val (.ref a0), .val (.int (2 : Int32)), .val (.ref mr), .unset] []))
  refine OGo.by (fun _ k => XS.aloadN X0.here hx rfl (hb hby d24_0) rfl rfl k) ?_
  show OGo p e below _ (s₁.setTop (mkF m 1 #[.val (.ref a0), .val (.int (2 : Int32)), .val (.ref mr), .unset] [(.ref mr)]))
  obtain ⟨vm1, X1, st1⟩ := X0.ldcMirror hx hown (mvT hZ (hw _ (List.mem_of_getElem? (i := 194) rfl))) (own_mev hZ M_0) (g := (mkF m 1 #[.val (.ref a0), .val (.int (2 : Int32)), .val (.ref mr), .unset] [(.ref mr)])) rfl (hb hby d24_1)
  refine OGo.by st1 ?_
  have e1 : (s₁.setVm vm1).heap = h0 := e0
  show OGo p e below _ ((s₁.setVm vm1).setTop (mkF m 3 #[.val (.ref a0), .val (.int (2 : Int32)), .val (.ref mr), .unset] [(.ref mr), (.ref mr)]))
  refine OGo.by (fun _ k => Jvm.RoadKit.acmp (g := (mkF m 3 #[.val (.ref a0), .val (.int (2 : Int32)), .val (.ref mr), .unset] [(.ref mr), (.ref mr)])) X1 hx rfl rfl rfl (pc0 := 3) (pc' := 6) (same := true) rfl (hb hby d24_3) rfl (decide_eq_true rfl) (by decide) (by decide) k) ?_
  show OGo p e below _ ((s₁.setVm vm1).setTop (mkF m 6 #[.val (.ref a0), .val (.int (2 : Int32)), .val (.ref mr), .unset] []))
  refine OGo.by (fun _ k => XS.iloadN X1.here hx rfl (hb hby d24_6) rfl k) ?_
  show OGo p e below _ ((s₁.setVm vm1).setTop (mkF m 7 #[.val (.ref a0), .val (.int (2 : Int32)), .val (.ref mr), .unset] [(.int (2 : Int32))]))
  obtain ⟨T2, h2, k2, X2, e2, E2, A2, XA2, O2, st2⟩ := newRE X1 hx hZ hown (hw _ (List.mem_of_getElem? (i := 195) rfl)) (hw _ (List.mem_of_getElem? (i := 167) rfl)) e1 (g := (mkF m 7 #[.val (.ref a0), .val (.int (2 : Int32)), .val (.ref mr), .unset] [(.int (2 : Int32))])) rfl (hb hby d24_7) rfl (by decide : ¬ ((2 : Int32) < (0 : Int32))) (cap := 2) (by decide) (by decide) (by decide) (by decide) (ad := "[Ljava/lang/Object;") (by decide)
  obtain ⟨b2, g2⟩ : ∃ z, z = h0.size := ⟨_, rfl⟩
  rw [← g2] at A2 XA2 st2
  have ne_a0_b2 : a0 ≠ b2 := Nat.ne_of_lt (Nat.lt_of_lt_of_le A_d.lt (Nat.le_of_eq g2.symm))
  have ne_c0_b2 : c0 ≠ b2 := Nat.ne_of_lt (Nat.lt_of_lt_of_le Ec0.lt (Nat.le_of_eq g2.symm))
  have ne_c1_b2 : c1 ≠ b2 := Nat.ne_of_lt (Nat.lt_of_lt_of_le Ec1.lt (Nat.le_of_eq g2.symm))
  have g_b2 : n0 ≤ b2 := Nat.le_trans Z0 (Nat.le_of_eq g2.symm)
  have sz_b2 : h0.size ≤ b2 := Nat.le_trans (Nat.le_refl _) (Nat.le_of_eq g2.symm)
  refine OGo.by st2 ?_
  have K2 : Keep h0 h2 [] := ((Keep.refl h0 [])).ext E2
  have V2 : Arv Z h2 b2 k2 (.object "java/lang/Object") (2 : Int32) [.null, .null] .null := (Arv.new A2 (by decide)).pad (pad_rep [] .null 2)
  show OGo p e below _ (T2.setTop (mkF m 10 #[.val (.ref a0), .val (.int (2 : Int32)), .val (.ref mr), .unset] [(.ref b2)]))
  refine OGo.by (fun _ k => XS.goto X2.here hx rfl (pc0 := 10) (pc' := 24) rfl (hb hby d24_10) (by decide) (by decide) k) ?_
  show OGo p e below _ (T2.setTop (mkF m 24 #[.val (.ref a0), .val (.int (2 : Int32)), .val (.ref mr), .unset] [(.ref b2)]))
  refine OGo.by (fun _ k => XS.astoreN X2.here hx rfl (hb hby d24_24) rfl rfl (l' := #[.val (.ref a0), .val (.int (2 : Int32)), .val (.ref mr), .val (.ref b2)]) rfl k) ?_
  show OGo p e below _ (T2.setTop (mkF m 25 #[.val (.ref a0), .val (.int (2 : Int32)), .val (.ref mr), .val (.ref b2)] []))
  refine OGo.by (fun _ k => XS.aloadN X2.here hx rfl (hb hby d24_25) rfl rfl k) ?_
  show OGo p e below _ (T2.setTop (mkF m 26 #[.val (.ref a0), .val (.int (2 : Int32)), .val (.ref mr), .val (.ref b2)] [(.ref a0)]))
  refine OGo.by (fun _ k => XS.iconst X2.here hx rfl (hb hby d24_26) k) ?_
  show OGo p e below _ (T2.setTop (mkF m 27 #[.val (.ref a0), .val (.int (2 : Int32)), .val (.ref mr), .val (.ref b2)] [(.int (0 : Int32)), (.ref a0)]))
  refine OGo.by (fun _ k => XS.aloadN X2.here hx rfl (hb hby d24_27) rfl rfl k) ?_
  show OGo p e below _ (T2.setTop (mkF m 28 #[.val (.ref a0), .val (.int (2 : Int32)), .val (.ref mr), .val (.ref b2)] [(.ref b2), (.int (0 : Int32)), (.ref a0)]))
  refine OGo.by (fun _ k => XS.iconst X2.here hx rfl (hb hby d24_28) k) ?_
  show OGo p e below _ (T2.setTop (mkF m 29 #[.val (.ref a0), .val (.int (2 : Int32)), .val (.ref mr), .val (.ref b2)] [(.int (0 : Int32)), (.ref b2), (.int (0 : Int32)), (.ref a0)]))
  refine OGo.by (fun _ k => XS.aloadN X2.here hx rfl (hb hby d24_29) rfl rfl k) ?_
  show OGo p e below _ (T2.setTop (mkF m 30 #[.val (.ref a0), .val (.int (2 : Int32)), .val (.ref mr), .val (.ref b2)] [(.ref a0), (.int (0 : Int32)), (.ref b2), (.int (0 : Int32)), (.ref a0)]))
  have f3 : Arv Z h2 a0 kd (.object "java/lang/Object") (10 : Int32) [(.ref c0), (.ref c1), .null, .null, .null, .null, .null, .null, .null, .null] .null := (A_d.ext E2)
  obtain ⟨cl4, Ar4, q4, S4, M4, -, -⟩ := id f3
  refine OGo.by (X2.arraylength hx (by rw [e2]; exact Ar4.1) (State.isArrayOf_alike hZ.alike Ar4.2.1) (g := (mkF m 30 #[.val (.ref a0), .val (.int (2 : Int32)), .val (.ref mr), .val (.ref b2)] [(.ref a0), (.int (0 : Int32)), (.ref b2), (.int (0 : Int32)), (.ref a0)])) rfl rfl (hb hby d24_30)) ?_
  rw [len_of S4 M4]
  show OGo p e below _ (T2.setTop (mkF m 31 #[.val (.ref a0), .val (.int (2 : Int32)), .val (.ref mr), .val (.ref b2)] [(.int (10 : Int32)), (.int (0 : Int32)), (.ref b2), (.int (0 : Int32)), (.ref a0)]))
  refine OGo.by (fun _ k => XS.iloadN X2.here hx rfl (hb hby d24_31) rfl k) ?_
  show OGo p e below _ (T2.setTop (mkF m 32 #[.val (.ref a0), .val (.int (2 : Int32)), .val (.ref mr), .val (.ref b2)] [(.int (2 : Int32)), (.int (10 : Int32)), (.int (0 : Int32)), (.ref b2), (.int (0 : Int32)), (.ref a0)]))
  obtain ⟨_, _, ⟨T5, L5, k5, n5⟩, -, X5, ⟨Lc5, hQ5, l5, y5, z5⟩, st5⟩ := Jvm.LawKit.callS X2 hx (y := (⟨"java/lang/Math", "min", "(II)I"⟩ : MethodName)) hown (mvT hZ (hw _ (List.mem_of_getElem? (i := 196) rfl))) (mvT hZ (hw _ (List.mem_of_getElem? (i := 197) rfl))) (mvT hZ (hw _ (List.mem_of_getElem? (i := 164) rfl))) (mvT hZ (hw _ (List.mem_of_getElem? (i := 198) rfl))) (by decide) (backOf (W := 4) (rm_min2 l Z av0 hw [] h2 n0 (Nat.le_trans Z0 K2.1)) hZ (hw _ (List.mem_of_getElem? (i := 198) rfl)) (hw _ (List.mem_of_getElem? (i := 164) rfl)) (by decide) (by decide)) (g := (mkF m 32 #[.val (.ref a0), .val (.int (2 : Int32)), .val (.ref mr), .val (.ref b2)] [(.int (2 : Int32)), (.int (10 : Int32)), (.int (0 : Int32)), (.ref b2), (.int (0 : Int32)), (.ref a0)])) rfl (by rw [hml]; rfl) (argsL := [(.int (10 : Int32)), (.int (2 : Int32))]) (rest := [(.int (0 : Int32)), (.ref b2), (.int (0 : Int32)), (.ref a0)]) (lenOf own_pd1 rfl) rfl (by show 2 * 0 + _ ≤ _; exact Nat.le_of_eq rfl) (hb hby d24_32) (fun _ _ => ⟨rfl, e2, (by decide : 1 + 0 ≤ _), (by decide : 2 + 0 ≤ _)⟩)
  dsimp only [Pt.U, Pt.locs, Pt.cells, Pt.slots] at X5 l5 y5 z5 st5 hQ5
  subst l5 y5 z5
  obtain ⟨rfl, N5q, e5⟩ := hQ5
  have N5 := Fr.app N0 N5q
  refine OGo.by st5 ?_
  show OGo p e below _ (T5.setTop (mkF m 35 #[.val (.ref a0), .val (.int (2 : Int32)), .val (.ref mr), .val (.ref b2)] [(.int (2 : Int32)), (.int (0 : Int32)), (.ref b2), (.int (0 : Int32)), (.ref a0)]))
  obtain ⟨clb6, Arb6, qb6, -, -, -, -⟩ := id V2
  have f7 : Exa Z h2 c1 "com/example/kept_inbox/keptinbox/UnreadConversation" := (Ec1.ext E2)
  have f8 : Exa Z h2 c0 "com/example/kept_inbox/keptinbox/UnreadConversation" := (Ec0.ext E2)
  obtain ⟨T6, h6, L6, X6, e6, N6, Kc6, V6, st6⟩ := cpA X5 hx hZ hown (hw _ (List.mem_of_getElem? (i := 199) rfl)) (hw _ (List.mem_of_getElem? (i := 202) rfl)) (hw _ (List.mem_of_getElem? (i := 200) rfl)) (hw _ (List.mem_of_getElem? (i := 201) rfl)) e5 (sp := (0 : Int32)) (dp := (0 : Int32)) (nn := (2 : Int32)) (us := [(.ref c0), (.ref c1)]) f3 V2 (Or.inr ⟨rfl, rfl, ⟨(Sto.ofV Arb6 qb6 O2 (Ins.of_exa f8 (hw _ (List.mem_of_getElem? (i := 168) rfl)))), ⟨(Sto.ofV Arb6 qb6 O2 (Ins.of_exa f7 (hw _ (List.mem_of_getElem? (i := 168) rfl)))), trivial⟩⟩⟩) (by decide) (by decide) (by decide) (by decide) (by decide) rfl (by decide) N5 g_b2 (g := (mkF m 35 #[.val (.ref a0), .val (.int (2 : Int32)), .val (.ref mr), .val (.ref b2)] [(.int (2 : Int32)), (.int (0 : Int32)), (.ref b2), (.int (0 : Int32)), (.ref a0)])) rfl (by rw [hml]; rfl) rfl (hb hby d24_35) (by decide) (W := 0) (by show 2 * 0 + _ ≤ _; exact Nat.le_of_eq rfl) (by decide)
  refine OGo.by st6 ?_
  have K6 : Keep h0 h6 [] := (K2).trans Kc6 (allS (P := fun x => x ∈ ([] : List Addr) ∨ h0.size ≤ x) (Or.inr sz_b2) (all0 (P := fun x => x ∈ ([] : List Addr) ∨ h0.size ≤ x)))
  show OGo p e below _ (T6.setTop (mkF m 38 #[.val (.ref a0), .val (.int (2 : Int32)), .val (.ref mr), .val (.ref b2)] []))
  refine OGo.by (fun _ k => XS.aloadN X6.here hx rfl (hb hby d24_38) rfl rfl k) ?_
  show OGo p e below _ (T6.setTop (mkF m 39 #[.val (.ref a0), .val (.int (2 : Int32)), .val (.ref mr), .val (.ref b2)] [(.ref b2)]))
  obtain ⟨fs, hr, hrun, hended, hW, hsame⟩ := X6.leave (v := some (.ref b2)) (fun h => by rw [Bd.returns] at h; cases h)
  refine OGo.ret (retOut X6 hx Bd.returns rfl (Or.inr (Or.inr (Or.inr (Or.inr ⟨rfl, rfl, rfl⟩)))) (hb hby d24_39) hr) hrun hended ⟨_, _, rfl, ?_, ⟨_, rfl⟩, hW, hsame.mono (by decide) (by decide)⟩
  show Q_rm_cp3_2 Z a0 kd mr c0 c1 h0 n0 _ T6.heap _
  rw [e6]
  have f9 : Exa Z h6 b2 "[Ljava/lang/Object;" := (XA2.keep Kc6)
  exact ⟨b2, k2, rfl, N6, K6, sz_b2, g_b2, V6, f9, O2⟩
theorem ef_rm_cp2_2 (m : MethodId) (a0 : Addr) (kd : ClassId) (mr : Addr) (c0 : Addr) (c1 : Addr) : entryFrame m #[(.ref a0), (.int (2 : Int32))] 2 = mkF m 0 #[.val (.ref a0), .val (.int (2 : Int32))] [] := by first | (simp [entryFrame, mkF, argsToLocals, Value.category]; done) | rfl
def Q_rm_cp2_2 (Z : State) (a0 : Addr) (kd : ClassId) (mr : Addr) (c0 : Addr) (c1 : Addr) (h0 : Heap) (n0 : Nat) (v : Option Value) (h : Heap) (L : List Loc) : Prop := ∃ b : Addr, ∃ kb : ClassId, v = some (.ref b) ∧ Fr n0 L ∧ Keep h0 h [] ∧ (h0.size ≤ b) ∧ (n0 ≤ b) ∧ (Arv Z h b kb (.object "java/lang/Object") (2 : Int32) [(.ref c0), (.ref c1)] .null) ∧ (Exa Z h b "[Ljava/lang/Object;") ∧ (Ovr Z kb "java/lang/Object")
set_option maxRecDepth 65536 in
set_option maxHeartbeats 40000000 in
theorem rm_cp2_2 (l : Launch) (Z : State) (av0 : Array Value) (hw : ∀ d ∈ tables_1, d.before av0 Z = true) (ws : List Jvm.Cond) (a0 : Addr) (kd : ClassId) (mr : Addr) (c0 : Addr) (c1 : Addr) (h0 : Heap) (n0 : Nat) (Z0 : n0 ≤ h0.size) (A_d : Arv Z h0 a0 kd (.object "java/lang/Object") (10 : Int32) [(.ref c0), (.ref c1), .null, .null, .null, .null, .null, .null, .null, .null] .null) (E_d : Exa Z h0 a0 "[Ljava/lang/Object;") (M_0 : Mir Z "[Ljava/lang/Object;" mr) (Ec0 : Exa Z h0 c0 "com/example/kept_inbox/keptinbox/UnreadConversation") (Ec1 : Exa Z h0 c1 "com/example/kept_inbox/keptinbox/UnreadConversation") :
    MetFree l (⟨"java/util/Arrays", "copyOf", "([Ljava/lang/Object;I)[Ljava/lang/Object;"⟩ : MethodName) (head1 (Jvm.Cond.code (⟨"java/util/Arrays", "copyOf", "([Ljava/lang/Object;I)[Ljava/lang/Object;"⟩ : MethodName) jdk_65_method_119_code 2 (some (.array (.object "java/lang/Object"))) :: ws) ({ frames := 2, cells := 1, slots := 2, locals := 33 } : Room)) (fun a U => a = #[(.ref a0), (.int (2 : Int32))] ∧ Z.Warmed39 U.vm ∧ U.heap = h0) (fun _ _ _ _ _ => True) (fun _ U o U' => ∃ v L, o = .returned v ∧ Q_rm_cp2_2 Z a0 kd mr c0 c1 h0 n0 v U'.heap L ∧ FrameEnd U o U' L ({ frames := 2, cells := 1, slots := 2, locals := 33 } : Room).cells ({ frames := 2, cells := 1, slots := 2, locals := 33 } : Room).slots) := by
  refine MetFree.of_bodySF (plainFor_of_name own_pn23) hisR ?_
  intro p e s m args below meth c s₁ Bd hml0 hP hK
  obtain ⟨rfl, hZ, hh⟩ := hP
  have hx := Bd.exec
  have hby := Bd.bytes
  have hml : c.maxLocals = 2 := hml0
  have hown : s.vm.findClass "java/util/Arrays" = some m.cls := findClass_of_methodNamed Bd.named
  have hnm := (name_of_methodNamed Bd.named Bd.method).1
  have X0 : Stand p l e ({ frames := 2, cells := 1, slots := 2, locals := 33 } : Room) s m #[(.ref a0), (.int (2 : Int32))] below meth c s₁ [] 0 0 := Stand.of_body Bd
  have e0 : s₁.heap = h0 := by rw [← hh, Bd.state]; rfl
  have N0 := Fr.nil n0
  refine OGo.by (P := fun U' o => ∃ v L, o = .returned v ∧ Q_rm_cp2_2 Z a0 kd mr c0 c1 h0 n0 v U'.heap L ∧ FrameEnd s o U' L ({ frames := 2, cells := 1, slots := 2, locals := 33 } : Room).cells ({ frames := 2, cells := 1, slots := 2, locals := 33 } : Room).slots) (fun T_ k_ => castTop (ef_rm_cp2_2 m a0 kd mr c0 c1) k_) ?_
  show OGo p e below _ (s₁.setTop (mkF m 0 #[.val (.ref a0), .val (.int (2 : Int32))] []))
  refine OGo.by (fun _ k => XS.aloadN X0.here hx rfl (hb hby d23_0) rfl rfl k) ?_
  show OGo p e below _ (s₁.setTop (mkF m 1 #[.val (.ref a0), .val (.int (2 : Int32))] [(.ref a0)]))
  refine OGo.by (fun _ k => XS.iloadN X0.here hx rfl (hb hby d23_1) rfl k) ?_
  show OGo p e below _ (s₁.setTop (mkF m 2 #[.val (.ref a0), .val (.int (2 : Int32))] [(.int (2 : Int32)), (.ref a0)]))
  refine OGo.by (fun _ k => XS.aloadN X0.here hx rfl (hb hby d23_2) rfl rfl k) ?_
  show OGo p e below _ (s₁.setTop (mkF m 3 #[.val (.ref a0), .val (.int (2 : Int32))] [(.ref a0), (.int (2 : Int32)), (.ref a0)]))
  obtain ⟨T1, X1, e1, st1⟩ := gcls X0 hx hZ hown (hw _ (List.mem_of_getElem? (i := 185) rfl)) (hw _ (List.mem_of_getElem? (i := 186) rfl)) (hw _ (List.mem_of_getElem? (i := 50) rfl)) (hw _ (List.mem_of_getElem? (i := 188) rfl)) (hw _ (List.mem_of_getElem? (i := 187) rfl)) (hw _ (List.mem_of_getElem? (i := 189) rfl)) e0 E_d M_0 (g := (mkF m 3 #[.val (.ref a0), .val (.int (2 : Int32))] [(.ref a0), (.int (2 : Int32)), (.ref a0)])) rfl (by rw [hml]; rfl) rfl (hb hby d23_3) (by decide) (W := 2) (by show 2 * 0 + _ ≤ _; exact Nat.le_of_eq rfl) (by decide)
  refine OGo.by st1 ?_
  show OGo p e below _ (T1.setTop (mkF m 6 #[.val (.ref a0), .val (.int (2 : Int32))] [(.ref mr), (.int (2 : Int32)), (.ref a0)]))
  obtain ⟨_, _, ⟨T2, L2, k2, n2⟩, -, X2, ⟨Lc2, hQ2, l2, y2, z2⟩, st2⟩ := Jvm.LawKit.callS X1 hx (y := (⟨"java/util/Arrays", "copyOf", "([Ljava/lang/Object;ILjava/lang/Class;)[Ljava/lang/Object;"⟩ : MethodName)) hown (mvT hZ (hw _ (List.mem_of_getElem? (i := 191) rfl))) (mvT hZ (hw _ (List.mem_of_getElem? (i := 192) rfl))) (mvT hZ (hw _ (List.mem_of_getElem? (i := 183) rfl))) (mvT hZ (hw _ (List.mem_of_getElem? (i := 193) rfl))) (by decide) (backOf (W := 0) (rm_cp3_2 l Z av0 hw [] a0 kd mr c0 c1 h0 n0 Z0 A_d E_d M_0 Ec0 Ec1) hZ (hw _ (List.mem_of_getElem? (i := 193) rfl)) (hw _ (List.mem_of_getElem? (i := 183) rfl)) (by decide) (by decide)) (g := (mkF m 6 #[.val (.ref a0), .val (.int (2 : Int32))] [(.ref mr), (.int (2 : Int32)), (.ref a0)])) rfl (by rw [hml]; rfl) (argsL := [(.ref a0), (.int (2 : Int32)), (.ref mr)]) (rest := []) (lenOf own_pd9 rfl) rfl (by show 2 * 0 + _ ≤ _; exact Nat.le_of_eq rfl) (hb hby d23_6) (fun _ _ => ⟨rfl, e1, (by decide : 0 + 1 ≤ _), (by decide : 0 + 2 ≤ _)⟩)
  dsimp only [Pt.U, Pt.locs, Pt.cells, Pt.slots] at X2 l2 y2 z2 st2 hQ2
  subst l2 y2 z2
  obtain ⟨b_2, kb_2, rfl, N2q, Kc2, G2_0, G2_1, G2_2, G2_3, G2_4⟩ := hQ2
  have N2 := Fr.app N0 N2q
  have ne_a0_b_2 : a0 ≠ b_2 := Nat.ne_of_lt (Nat.lt_of_lt_of_le A_d.lt G2_0)
  have ne_c0_b_2 : c0 ≠ b_2 := Nat.ne_of_lt (Nat.lt_of_lt_of_le Ec0.lt G2_0)
  have ne_c1_b_2 : c1 ≠ b_2 := Nat.ne_of_lt (Nat.lt_of_lt_of_le Ec1.lt G2_0)
  have g_b_2 : n0 ≤ b_2 := Nat.le_trans Z0 G2_0
  have sz_b_2 : h0.size ≤ b_2 := Nat.le_trans (Nat.le_refl _) G2_0
  have K2 : Keep h0 T2.heap [] := ((Keep.refl h0 [])).trans Kc2 (all0 (P := fun x => x ∈ ([] : List Addr) ∨ h0.size ≤ x))
  refine OGo.by st2 ?_
  show OGo p e below _ (T2.setTop (mkF m 9 #[.val (.ref a0), .val (.int (2 : Int32))] [(.ref b_2)]))
  obtain ⟨fs, hr, hrun, hended, hW, hsame⟩ := X2.leave (v := some (.ref b_2)) (fun h => by rw [Bd.returns] at h; cases h)
  refine OGo.ret (retOut X2 hx Bd.returns rfl (Or.inr (Or.inr (Or.inr (Or.inr ⟨rfl, rfl, rfl⟩)))) (hb hby d23_9) hr) hrun hended ⟨_, _, rfl, ?_, ⟨_, rfl⟩, hW, hsame.mono (by decide) (by decide)⟩
  show Q_rm_cp2_2 Z a0 kd mr c0 c1 h0 n0 _ T2.heap _
  exact ⟨b_2, kb_2, rfl, N2, K2, sz_b_2, g_b_2, G2_2, G2_3, G2_4⟩
theorem ef_rm_toa2 (m : MethodId) (a0 : Addr) : entryFrame m #[(.ref a0)] 1 = mkF m 0 #[.val (.ref a0)] [] := by first | (simp [entryFrame, mkF, argsToLocals, Value.category]; done) | rfl
def Q_rm_toa2 (Z : State) (a0 : Addr) (d : Addr) (kd : ClassId) (mr : Addr) (c0 : Addr) (c1 : Addr) (h0 : Heap) (n0 : Nat) (v : Option Value) (h : Heap) (L : List Loc) : Prop := ∃ b : Addr, ∃ kb : ClassId, v = some (.ref b) ∧ Fr n0 L ∧ Keep h0 h [] ∧ (h0.size ≤ b) ∧ (n0 ≤ b) ∧ (Arv Z h b kb (.object "java/lang/Object") (2 : Int32) [(.ref c0), (.ref c1)] .null) ∧ (Exa Z h b "[Ljava/lang/Object;") ∧ (Ovr Z kb "java/lang/Object")
set_option maxRecDepth 65536 in
set_option maxHeartbeats 40000000 in
theorem rm_toa2 (l : Launch) (Z : State) (av0 : Array Value) (hw : ∀ d ∈ tables_1, d.before av0 Z = true) (ws : List Jvm.Cond) (a0 : Addr) (d : Addr) (kd : ClassId) (mr : Addr) (c0 : Addr) (c1 : Addr) (h0 : Heap) (n0 : Nat) (Z0 : n0 ≤ h0.size) (E0 : Exa Z h0 a0 "java/util/ArrayList") (F0 : Fld Z h0 a0 "java/util/ArrayList" "size" "I" (.int (2 : Int32))) (F1 : Fld Z h0 a0 "java/util/ArrayList" "elementData" "[Ljava/lang/Object;" (.ref d)) (A_d : Arv Z h0 d kd (.object "java/lang/Object") (10 : Int32) [(.ref c0), (.ref c1), .null, .null, .null, .null, .null, .null, .null, .null] .null) (E_d : Exa Z h0 d "[Ljava/lang/Object;") (M_0 : Mir Z "[Ljava/lang/Object;" mr) (Ec0 : Exa Z h0 c0 "com/example/kept_inbox/keptinbox/UnreadConversation") (Ec1 : Exa Z h0 c1 "com/example/kept_inbox/keptinbox/UnreadConversation") :
    MetFree l (⟨"java/util/ArrayList", "toArray", "()[Ljava/lang/Object;"⟩ : MethodName) (head1 (Jvm.Cond.code (⟨"java/util/ArrayList", "toArray", "()[Ljava/lang/Object;"⟩ : MethodName) jdk_38_method_16_code 1 (some (.array (.object "java/lang/Object"))) :: ws) ({ frames := 3, cells := 1, slots := 2, locals := 46 } : Room)) (fun a U => a = #[(.ref a0)] ∧ Z.Warmed39 U.vm ∧ U.heap = h0) (fun _ _ _ _ _ => True) (fun _ U o U' => ∃ v L, o = .returned v ∧ Q_rm_toa2 Z a0 d kd mr c0 c1 h0 n0 v U'.heap L ∧ FrameEnd U o U' L ({ frames := 3, cells := 1, slots := 2, locals := 46 } : Room).cells ({ frames := 3, cells := 1, slots := 2, locals := 46 } : Room).slots) := by
  refine MetFree.of_bodySF (plainFor_of_name own_pn22) hisR ?_
  intro p e s m args below meth c s₁ Bd hml0 hP hK
  obtain ⟨rfl, hZ, hh⟩ := hP
  have hx := Bd.exec
  have hby := Bd.bytes
  have hml : c.maxLocals = 1 := hml0
  have hown : s.vm.findClass "java/util/ArrayList" = some m.cls := findClass_of_methodNamed Bd.named
  have hnm := (name_of_methodNamed Bd.named Bd.method).1
  have X0 : Stand p l e ({ frames := 3, cells := 1, slots := 2, locals := 46 } : Room) s m #[(.ref a0)] below meth c s₁ [] 0 0 := Stand.of_body Bd
  have e0 : s₁.heap = h0 := by rw [← hh, Bd.state]; rfl
  have N0 := Fr.nil n0
  refine OGo.by (P := fun U' o => ∃ v L, o = .returned v ∧ Q_rm_toa2 Z a0 d kd mr c0 c1 h0 n0 v U'.heap L ∧ FrameEnd s o U' L ({ frames := 3, cells := 1, slots := 2, locals := 46 } : Room).cells ({ frames := 3, cells := 1, slots := 2, locals := 46 } : Room).slots) (fun T_ k_ => castTop (ef_rm_toa2 m a0) k_) ?_
  show OGo p e below _ (s₁.setTop (mkF m 0 #[.val (.ref a0)] []))
  refine OGo.by (fun _ k => XS.aloadN X0.here hx rfl (hb hby d22_0) rfl rfl k) ?_
  show OGo p e below _ (s₁.setTop (mkF m 1 #[.val (.ref a0)] [(.ref a0)]))
  obtain ⟨T1, X1, e1, st1⟩ := getF X0 hx hZ hown (host := "") (Or.inl (hw _ (List.mem_of_getElem? (i := 24) rfl))) Via.refl e0 F1 (g := (mkF m 1 #[.val (.ref a0)] [(.ref a0)])) rfl rfl (hb hby d22_1)
  refine OGo.by st1 ?_
  show OGo p e below _ (T1.setTop (mkF m 4 #[.val (.ref a0)] [(.ref d)]))
  refine OGo.by (fun _ k => XS.aloadN X1.here hx rfl (hb hby d22_4) rfl rfl k) ?_
  show OGo p e below _ (T1.setTop (mkF m 5 #[.val (.ref a0)] [(.ref a0), (.ref d)]))
  obtain ⟨T2, X2, e2, st2⟩ := getF X1 hx hZ hown (host := "") (Or.inl (hw _ (List.mem_of_getElem? (i := 61) rfl))) Via.refl e1 F0 (g := (mkF m 5 #[.val (.ref a0)] [(.ref a0), (.ref d)])) rfl rfl (hb hby d22_5)
  refine OGo.by st2 ?_
  show OGo p e below _ (T2.setTop (mkF m 8 #[.val (.ref a0)] [(.int (2 : Int32)), (.ref d)]))
  obtain ⟨_, _, ⟨T3, L3, k3, n3⟩, -, X3, ⟨Lc3, hQ3, l3, y3, z3⟩, st3⟩ := Jvm.LawKit.callS X2 hx (y := (⟨"java/util/Arrays", "copyOf", "([Ljava/lang/Object;I)[Ljava/lang/Object;"⟩ : MethodName)) hown (mvT hZ (hw _ (List.mem_of_getElem? (i := 181) rfl))) (mvT hZ (hw _ (List.mem_of_getElem? (i := 182) rfl))) (mvT hZ (hw _ (List.mem_of_getElem? (i := 183) rfl))) (mvT hZ (hw _ (List.mem_of_getElem? (i := 184) rfl))) (by decide) (backOf (W := 0) (rm_cp2_2 l Z av0 hw [] d kd mr c0 c1 h0 n0 Z0 A_d E_d M_0 Ec0 Ec1) hZ (hw _ (List.mem_of_getElem? (i := 184) rfl)) (hw _ (List.mem_of_getElem? (i := 183) rfl)) (by decide) (by decide)) (g := (mkF m 8 #[.val (.ref a0)] [(.int (2 : Int32)), (.ref d)])) rfl (by rw [hml]; rfl) (argsL := [(.ref d), (.int (2 : Int32))]) (rest := []) (lenOf own_pd10 rfl) rfl (by show 2 * 0 + _ ≤ _; exact Nat.le_of_eq rfl) (hb hby d22_8) (fun _ _ => ⟨rfl, e2, (by decide : 0 + 1 ≤ _), (by decide : 0 + 2 ≤ _)⟩)
  dsimp only [Pt.U, Pt.locs, Pt.cells, Pt.slots] at X3 l3 y3 z3 st3 hQ3
  subst l3 y3 z3
  obtain ⟨b_3, kb_3, rfl, N3q, Kc3, G3_0, G3_1, G3_2, G3_3, G3_4⟩ := hQ3
  have N3 := Fr.app N0 N3q
  have ne_a0_b_3 : a0 ≠ b_3 := Nat.ne_of_lt (Nat.lt_of_lt_of_le E0.lt G3_0)
  have ne_d_b_3 : d ≠ b_3 := Nat.ne_of_lt (Nat.lt_of_lt_of_le A_d.lt G3_0)
  have ne_c0_b_3 : c0 ≠ b_3 := Nat.ne_of_lt (Nat.lt_of_lt_of_le Ec0.lt G3_0)
  have ne_c1_b_3 : c1 ≠ b_3 := Nat.ne_of_lt (Nat.lt_of_lt_of_le Ec1.lt G3_0)
  have g_b_3 : n0 ≤ b_3 := Nat.le_trans Z0 G3_0
  have sz_b_3 : h0.size ≤ b_3 := Nat.le_trans (Nat.le_refl _) G3_0
  have K3 : Keep h0 T3.heap [] := ((Keep.refl h0 [])).trans Kc3 (all0 (P := fun x => x ∈ ([] : List Addr) ∨ h0.size ≤ x))
  refine OGo.by st3 ?_
  show OGo p e below _ (T3.setTop (mkF m 11 #[.val (.ref a0)] [(.ref b_3)]))
  obtain ⟨fs, hr, hrun, hended, hW, hsame⟩ := X3.leave (v := some (.ref b_3)) (fun h => by rw [Bd.returns] at h; cases h)
  refine OGo.ret (retOut X3 hx Bd.returns rfl (Or.inr (Or.inr (Or.inr (Or.inr ⟨rfl, rfl, rfl⟩)))) (hb hby d22_11) hr) hrun hended ⟨_, _, rfl, ?_, ⟨_, rfl⟩, hW, hsame.mono (by decide) (by decide)⟩
  show Q_rm_toa2 Z a0 d kd mr c0 c1 h0 n0 _ T3.heap _
  exact ⟨b_3, kb_3, rfl, N3, K3, sz_b_3, g_b_3, G3_2, G3_3, G3_4⟩
theorem d26_45 : decode jdk_40_method_47_code 45 = .ok (.new 96, 3) := by decide +kernel
theorem d26_48 : decode jdk_40_method_47_code 48 = .ok (.dup, 1) := by decide +kernel
theorem d26_49 : decode jdk_40_method_47_code 49 = .ok (.aload_n 0, 1) := by decide +kernel
theorem d26_50 : decode jdk_40_method_47_code 50 = .ok (.iconst 0, 1) := by decide +kernel
theorem d26_51 : decode jdk_40_method_47_code 51 = .ok (.aaload, 1) := by decide +kernel
theorem d26_52 : decode jdk_40_method_47_code 52 = .ok (.aload_n 0, 1) := by decide +kernel
theorem d26_53 : decode jdk_40_method_47_code 53 = .ok (.iconst 1, 1) := by decide +kernel
theorem d26_54 : decode jdk_40_method_47_code 54 = .ok (.aaload, 1) := by decide +kernel
theorem d26_55 : decode jdk_40_method_47_code 55 = .ok (.invokespecial 100, 3) := by decide +kernel
theorem own_pd13 : parseMethodDescriptor "(Ljava/lang/Object;Ljava/lang/Object;)V" = some ⟨[(.object "java/lang/Object"), (.object "java/lang/Object")], none⟩ := by decide +kernel
theorem d26_58 : decode jdk_40_method_47_code 58 = .ok (.areturn, 1) := by decide +kernel
theorem ef_rm_lof2 (m : MethodId) (a0 : Addr) : entryFrame m #[(.ref a0)] 2 = mkF m 0 #[.val (.ref a0), .unset] [] := by first | (simp [entryFrame, mkF, argsToLocals, Value.category]; done) | rfl
def Q_rm_lof2 (Z : State) (a0 : Addr) (ka : ClassId) (c0 : Addr) (c1 : Addr) (h0 : Heap) (n0 : Nat) (v : Option Value) (h : Heap) (L : List Loc) : Prop := ∃ b : Addr, v = some (.ref b) ∧ Fr n0 L ∧ Keep h0 h [] ∧ (h0.size ≤ b) ∧ (n0 ≤ b) ∧ (Exa Z h b "java/util/ImmutableCollections$List12") ∧ (Fld Z h b "java/util/ImmutableCollections$List12" "e0" "Ljava/lang/Object;" (.ref c0)) ∧ (Fld Z h b "java/util/ImmutableCollections$List12" "e1" "Ljava/lang/Object;" (.ref c1))
set_option maxRecDepth 65536 in
set_option maxHeartbeats 40000000 in
theorem rm_lof2 (l : Launch) (Z : State) (av0 : Array Value) (hw : ∀ d ∈ tables_1, d.before av0 Z = true) (ws : List Jvm.Cond) (a0 : Addr) (ka : ClassId) (c0 : Addr) (c1 : Addr) (h0 : Heap) (n0 : Nat) (Z0 : n0 ≤ h0.size) (A_a : Arv Z h0 a0 ka (.object "java/lang/Object") (2 : Int32) [(.ref c0), (.ref c1)] .null) (Ec0 : Exa Z h0 c0 "com/example/kept_inbox/keptinbox/UnreadConversation") (Ec1 : Exa Z h0 c1 "com/example/kept_inbox/keptinbox/UnreadConversation") :
    MetFree l (⟨"java/util/List", "of", "([Ljava/lang/Object;)Ljava/util/List;"⟩ : MethodName) (head1 (Jvm.Cond.code (⟨"java/util/List", "of", "([Ljava/lang/Object;)Ljava/util/List;"⟩ : MethodName) jdk_40_method_47_code 2 (some (.object "java/util/List")) :: ws) ({ frames := 5, cells := 1, slots := 2, locals := 63 } : Room)) (fun a U => a = #[(.ref a0)] ∧ Z.Warmed39 U.vm ∧ U.heap = h0) (fun _ _ _ _ _ => True) (fun _ U o U' => ∃ v L, o = .returned v ∧ Q_rm_lof2 Z a0 ka c0 c1 h0 n0 v U'.heap L ∧ FrameEnd U o U' L ({ frames := 5, cells := 1, slots := 2, locals := 63 } : Room).cells ({ frames := 5, cells := 1, slots := 2, locals := 63 } : Room).slots) := by
  refine MetFree.of_bodySF (plainFor_of_name own_pn26) hisR ?_
  intro p e s m args below meth c s₁ Bd hml0 hP hK
  obtain ⟨rfl, hZ, hh⟩ := hP
  have hx := Bd.exec
  have hby := Bd.bytes
  have hml : c.maxLocals = 2 := hml0
  have hown : s.vm.findClass "java/util/List" = some m.cls := findClass_of_methodNamed Bd.named
  have hnm := (name_of_methodNamed Bd.named Bd.method).1
  have X0 : Stand p l e ({ frames := 5, cells := 1, slots := 2, locals := 63 } : Room) s m #[(.ref a0)] below meth c s₁ [] 0 0 := Stand.of_body Bd
  have e0 : s₁.heap = h0 := by rw [← hh, Bd.state]; rfl
  have N0 := Fr.nil n0
  refine OGo.by (P := fun U' o => ∃ v L, o = .returned v ∧ Q_rm_lof2 Z a0 ka c0 c1 h0 n0 v U'.heap L ∧ FrameEnd s o U' L ({ frames := 5, cells := 1, slots := 2, locals := 63 } : Room).cells ({ frames := 5, cells := 1, slots := 2, locals := 63 } : Room).slots) (fun T_ k_ => castTop (ef_rm_lof2 m a0) k_) ?_
  show OGo p e below _ (s₁.setTop (mkF m 0 #[.val (.ref a0), .unset] []))
  refine OGo.by (fun _ k => XS.aloadN X0.here hx rfl (hb hby d26_0) rfl rfl k) ?_
  show OGo p e below _ (s₁.setTop (mkF m 1 #[.val (.ref a0), .unset] [(.ref a0)]))
  obtain ⟨cl1, Ar1, q1, S1, M1, -, -⟩ := id A_a
  refine OGo.by (X0.arraylength hx (by rw [e0]; exact Ar1.1) (State.isArrayOf_alike hZ.alike Ar1.2.1) (g := (mkF m 1 #[.val (.ref a0), .unset] [(.ref a0)])) rfl rfl (hb hby d26_1)) ?_
  rw [len_of S1 M1]
  show OGo p e below _ (s₁.setTop (mkF m 2 #[.val (.ref a0), .unset] [(.int (2 : Int32))]))
  refine OGo.by (fun _ k => XS.tswIn X0.here hx rfl (pc0 := 2) (pc' := 45) rfl (hb hby d26_2) rfl (by decide) (o := 43) rfl (by decide) (by decide) k) ?_
  show OGo p e below _ (s₁.setTop (mkF m 45 #[.val (.ref a0), .unset] []))
  obtain ⟨T2, h2, X2, e2, E2, A2, D2, U2, st2⟩ := newO X0 hx hZ hown (hw _ (List.mem_of_getElem? (i := 257) rfl)) (hw _ (List.mem_of_getElem? (i := 258) rfl)) (hw _ (List.mem_of_getElem? (i := 259) rfl)) e0 (g := (mkF m 45 #[.val (.ref a0), .unset] [])) rfl (hb hby d26_45) (by decide) (by decide)
  obtain ⟨b2, g2⟩ : ∃ z, z = h0.size := ⟨_, rfl⟩
  rw [← g2] at A2 D2 U2 st2
  have ne_a0_b2 : a0 ≠ b2 := Nat.ne_of_lt (Nat.lt_of_lt_of_le A_a.lt (Nat.le_of_eq g2.symm))
  have ne_c0_b2 : c0 ≠ b2 := Nat.ne_of_lt (Nat.lt_of_lt_of_le Ec0.lt (Nat.le_of_eq g2.symm))
  have ne_c1_b2 : c1 ≠ b2 := Nat.ne_of_lt (Nat.lt_of_lt_of_le Ec1.lt (Nat.le_of_eq g2.symm))
  have g_b2 : n0 ≤ b2 := Nat.le_trans Z0 (Nat.le_of_eq g2.symm)
  have sz_b2 : h0.size ≤ b2 := Nat.le_trans (Nat.le_refl _) (Nat.le_of_eq g2.symm)
  refine OGo.by st2 ?_
  have K2 : Keep h0 h2 [] := ((Keep.refl h0 [])).ext E2
  have F2_e0 : Fld Z h2 b2 "java/util/ImmutableCollections$List12" "e0" "Ljava/lang/Object;" .null := D2 (Or.inr (hw _ (List.mem_of_getElem? (i := 270) rfl))) (ty := (.object "java/lang/Object")) (by decide)
  have F2_e1 : Fld Z h2 b2 "java/util/ImmutableCollections$List12" "e1" "Ljava/lang/Object;" .null := D2 (Or.inr (hw _ (List.mem_of_getElem? (i := 273) rfl))) (ty := (.object "java/lang/Object")) (by decide)
  show OGo p e below _ (T2.setTop (mkF m 48 #[.val (.ref a0), .unset] [(.ref b2)]))
  refine OGo.by (fun _ k => XS.dup X2.here hx rfl (hb hby d26_48) rfl rfl k) ?_
  show OGo p e below _ (T2.setTop (mkF m 49 #[.val (.ref a0), .unset] [(.ref b2), (.ref b2)]))
  refine OGo.by (fun _ k => XS.aloadN X2.here hx rfl (hb hby d26_49) rfl rfl k) ?_
  show OGo p e below _ (T2.setTop (mkF m 50 #[.val (.ref a0), .unset] [(.ref a0), (.ref b2), (.ref b2)]))
  refine OGo.by (fun _ k => XS.iconst X2.here hx rfl (hb hby d26_50) k) ?_
  show OGo p e below _ (T2.setTop (mkF m 51 #[.val (.ref a0), .unset] [(.int (0 : Int32)), (.ref a0), (.ref b2), (.ref b2)]))
  have f3 : Arv Z h2 a0 ka (.object "java/lang/Object") (2 : Int32) [(.ref c0), (.ref c1)] .null := (A_a.ext E2)
  obtain ⟨cl4, Ar4, q4, S4, M4, Hs4, G4⟩ := id f3
  have hin4 := inb_of (j := (0 : Int32)) S4 ⟨(by decide), (by decide)⟩
  refine OGo.by (X2.aaload hx (j := (0 : Int32)) (v := (.ref c0)) (by rw [e2]; exact Ar4.1) (State.isArrayOf_alike hZ.alike Ar4.2.1) rfl Ar4.2.2 hin4 (Has.at Hs4 hin4 rfl) (g := (mkF m 51 #[.val (.ref a0), .unset] [(.int (0 : Int32)), (.ref a0), (.ref b2), (.ref b2)])) rfl rfl (hb hby d26_51)) ?_
  show OGo p e below _ (T2.setTop (mkF m 52 #[.val (.ref a0), .unset] [(.ref c0), (.ref b2), (.ref b2)]))
  refine OGo.by (fun _ k => XS.aloadN X2.here hx rfl (hb hby d26_52) rfl rfl k) ?_
  show OGo p e below _ (T2.setTop (mkF m 53 #[.val (.ref a0), .unset] [(.ref a0), (.ref c0), (.ref b2), (.ref b2)]))
  refine OGo.by (fun _ k => XS.iconst X2.here hx rfl (hb hby d26_53) k) ?_
  show OGo p e below _ (T2.setTop (mkF m 54 #[.val (.ref a0), .unset] [(.int (1 : Int32)), (.ref a0), (.ref c0), (.ref b2), (.ref b2)]))
  obtain ⟨cl5, Ar5, q5, S5, M5, Hs5, G5⟩ := id f3
  have hin5 := inb_of (j := (1 : Int32)) S5 ⟨(by decide), (by decide)⟩
  refine OGo.by (X2.aaload hx (j := (1 : Int32)) (v := (.ref c1)) (by rw [e2]; exact Ar5.1) (State.isArrayOf_alike hZ.alike Ar5.2.1) rfl Ar5.2.2 hin5 (Has.at Hs5 hin5 rfl) (g := (mkF m 54 #[.val (.ref a0), .unset] [(.int (1 : Int32)), (.ref a0), (.ref c0), (.ref b2), (.ref b2)])) rfl rfl (hb hby d26_54)) ?_
  show OGo p e below _ (T2.setTop (mkF m 55 #[.val (.ref a0), .unset] [(.ref c1), (.ref c0), (.ref b2), (.ref b2)]))
  obtain ⟨_, _, ⟨T6, L6, k6, n6⟩, -, X6, ⟨Lc6, hQ6, l6, y6, z6⟩, st6⟩ := X2.specialBack hx (y := (⟨"java/util/ImmutableCollections$List12", "<init>", "(Ljava/lang/Object;Ljava/lang/Object;)V"⟩ : MethodName)) rfl hown (mvT hZ (hw _ (List.mem_of_getElem? (i := 285) rfl))) (mvT hZ (hw _ (List.mem_of_getElem? (i := 286) rfl))) (mvT hZ (hw _ (List.mem_of_getElem? (i := 287) rfl))) (by decide) (backOf (W := 1) (rm_l2 l Z av0 hw [] b2 c0 c1 h2 n0 (Nat.le_trans Z0 K2.1) A2 F2_e0 F2_e1 g_b2) hZ (hw _ (List.mem_of_getElem? (i := 287) rfl)) (hw _ (List.mem_of_getElem? (i := 259) rfl)) (by decide) (by decide)) (g := (mkF m 55 #[.val (.ref a0), .unset] [(.ref c1), (.ref c0), (.ref b2), (.ref b2)])) rfl (by rw [hml]; rfl) (Steps.refl _) (a := b2) (argsL := [(.ref c0), (.ref c1)]) (rest := [(.ref b2)]) (lenOf own_pd13 rfl) rfl (by show 2 * 0 + _ ≤ _; exact Nat.le_of_eq rfl) (hb hby d26_55) (fun _ _ => ⟨rfl, e2, (by decide : 1 + 0 ≤ _), (by decide : 2 + 0 ≤ _)⟩)
  dsimp only [Pt.U, Pt.locs, Pt.cells, Pt.slots] at X6 l6 y6 z6 st6 hQ6
  subst l6 y6 z6
  obtain ⟨rfl, N6q, Kc6, G6_0, G6_1, G6_2⟩ := hQ6
  have N6 := Fr.app N0 N6q
  have K6 : Keep h0 T6.heap [] := (K2).trans Kc6 (allS (P := fun x => x ∈ ([] : List Addr) ∨ h0.size ≤ x) (Or.inr sz_b2) (all0 (P := fun x => x ∈ ([] : List Addr) ∨ h0.size ≤ x)))
  refine OGo.of st6 ?_
  show OGo p e below _ (T6.setTop (mkF m 58 #[.val (.ref a0), .unset] [(.ref b2)]))
  obtain ⟨fs, hr, hrun, hended, hW, hsame⟩ := X6.leave (v := some (.ref b2)) (fun h => by rw [Bd.returns] at h; cases h)
  refine OGo.ret (retOut X6 hx Bd.returns rfl (Or.inr (Or.inr (Or.inr (Or.inr ⟨rfl, rfl, rfl⟩)))) (hb hby d26_58) hr) hrun hended ⟨_, _, rfl, ?_, ⟨_, rfl⟩, hW, hsame.mono (by decide) (by decide)⟩
  show Q_rm_lof2 Z a0 ka c0 c1 h0 n0 _ T6.heap _
  exact ⟨b2, rfl, N6, K6, sz_b2, g_b2, G6_0, G6_1, G6_2⟩
theorem ef_rm_lc2 (m : MethodId) (a0 : Addr) : entryFrame m #[(.ref a0)] 2 = mkF m 0 #[.val (.ref a0), .unset] [] := by first | (simp [entryFrame, mkF, argsToLocals, Value.category]; done) | rfl
def Q_rm_lc2 (Z : State) (a0 : Addr) (d : Addr) (kd : ClassId) (mr : Addr) (c0 : Addr) (c1 : Addr) (h0 : Heap) (n0 : Nat) (v : Option Value) (h : Heap) (L : List Loc) : Prop := ∃ b : Addr, v = some (.ref b) ∧ Fr n0 L ∧ Keep h0 h [] ∧ (h0.size ≤ b) ∧ (n0 ≤ b) ∧ (Exa Z h b "java/util/ImmutableCollections$List12") ∧ (Fld Z h b "java/util/ImmutableCollections$List12" "e0" "Ljava/lang/Object;" (.ref c0)) ∧ (Fld Z h b "java/util/ImmutableCollections$List12" "e1" "Ljava/lang/Object;" (.ref c1))
set_option maxRecDepth 65536 in
set_option maxHeartbeats 40000000 in
theorem rm_lc2 (l : Launch) (Z : State) (av0 : Array Value) (hw : ∀ d ∈ tables_1, d.before av0 Z = true) (ws : List Jvm.Cond) (a0 : Addr) (d : Addr) (kd : ClassId) (mr : Addr) (c0 : Addr) (c1 : Addr) (h0 : Heap) (n0 : Nat) (Z0 : n0 ≤ h0.size) (E0 : Exa Z h0 a0 "java/util/ArrayList") (F0 : Fld Z h0 a0 "java/util/ArrayList" "size" "I" (.int (2 : Int32))) (F1 : Fld Z h0 a0 "java/util/ArrayList" "elementData" "[Ljava/lang/Object;" (.ref d)) (A_d : Arv Z h0 d kd (.object "java/lang/Object") (10 : Int32) [(.ref c0), (.ref c1), .null, .null, .null, .null, .null, .null, .null, .null] .null) (E_d : Exa Z h0 d "[Ljava/lang/Object;") (M_0 : Mir Z "[Ljava/lang/Object;" mr) (Ec0 : Exa Z h0 c0 "com/example/kept_inbox/keptinbox/UnreadConversation") (Ec1 : Exa Z h0 c1 "com/example/kept_inbox/keptinbox/UnreadConversation") :
    MetFree l (⟨"java/util/ImmutableCollections", "listCopy", "(Ljava/util/Collection;)Ljava/util/List;"⟩ : MethodName) (head1 (Jvm.Cond.code (⟨"java/util/ImmutableCollections", "listCopy", "(Ljava/util/Collection;)Ljava/util/List;"⟩ : MethodName) jdk_56_method_3_code 2 (some (.object "java/util/List")) :: ws) ({ frames := 6, cells := 2, slots := 4, locals := 76 } : Room)) (fun a U => a = #[(.ref a0)] ∧ Z.Warmed39 U.vm ∧ U.heap = h0) (fun _ _ _ _ _ => True) (fun _ U o U' => ∃ v L, o = .returned v ∧ Q_rm_lc2 Z a0 d kd mr c0 c1 h0 n0 v U'.heap L ∧ FrameEnd U o U' L ({ frames := 6, cells := 2, slots := 4, locals := 76 } : Room).cells ({ frames := 6, cells := 2, slots := 4, locals := 76 } : Room).slots) := by
  refine MetFree.of_bodySF (plainFor_of_name own_pn8) hisR ?_
  intro p e s m args below meth c s₁ Bd hml0 hP hK
  obtain ⟨rfl, hZ, hh⟩ := hP
  have hx := Bd.exec
  have hby := Bd.bytes
  have hml : c.maxLocals = 2 := hml0
  have hown : s.vm.findClass "java/util/ImmutableCollections" = some m.cls := findClass_of_methodNamed Bd.named
  have hnm := (name_of_methodNamed Bd.named Bd.method).1
  have X0 : Stand p l e ({ frames := 6, cells := 2, slots := 4, locals := 76 } : Room) s m #[(.ref a0)] below meth c s₁ [] 0 0 := Stand.of_body Bd
  have e0 : s₁.heap = h0 := by rw [← hh, Bd.state]; rfl
  have N0 := Fr.nil n0
  refine OGo.by (P := fun U' o => ∃ v L, o = .returned v ∧ Q_rm_lc2 Z a0 d kd mr c0 c1 h0 n0 v U'.heap L ∧ FrameEnd s o U' L ({ frames := 6, cells := 2, slots := 4, locals := 76 } : Room).cells ({ frames := 6, cells := 2, slots := 4, locals := 76 } : Room).slots) (fun T_ k_ => castTop (ef_rm_lc2 m a0) k_) ?_
  show OGo p e below _ (s₁.setTop (mkF m 0 #[.val (.ref a0), .unset] []))
  refine OGo.by (fun _ k => XS.aloadN X0.here hx rfl (hb hby d8_0) rfl rfl k) ?_
  show OGo p e below _ (s₁.setTop (mkF m 1 #[.val (.ref a0), .unset] [(.ref a0)]))
  obtain ⟨T1, X1, e1, st1⟩ := instNo X0 hx hZ hown (hw _ (List.mem_of_getElem? (i := 46) rfl)) e0 E0 (own_nsNo (hw _ (List.mem_of_getElem? (i := 47) rfl)) (hw _ (List.mem_of_getElem? (i := 258) rfl)) (NS.step (hw _ (List.mem_of_getElem? (i := 47) rfl)) (NS.step (hw _ (List.mem_of_getElem? (i := 48) rfl)) (NS.step (hw _ (List.mem_of_getElem? (i := 49) rfl)) (own_nsRoot (hw _ (List.mem_of_getElem? (i := 50) rfl)) (hw _ (List.mem_of_getElem? (i := 258) rfl)) (by decide)) (by decide)) (by decide)) (by decide)) (by decide)) (g := (mkF m 1 #[.val (.ref a0), .unset] [(.ref a0)])) rfl rfl (hb hby d8_1)
  refine OGo.by st1 ?_
  show OGo p e below _ (T1.setTop (mkF m 4 #[.val (.ref a0), .unset] [(.int (0 : Int32))]))
  refine OGo.by (fun _ k => XS.ifNo X1.here hx rfl (hb hby d8_4) rfl ((if0 _ _).trans (teq (by decide : (0 : Int32) = (0 : Int32))).2) k) ?_
  show OGo p e below _ (T1.setTop (mkF m 7 #[.val (.ref a0), .unset] []))
  refine OGo.by (fun _ k => XS.aloadN X1.here hx rfl (hb hby d8_7) rfl rfl k) ?_
  show OGo p e below _ (T1.setTop (mkF m 8 #[.val (.ref a0), .unset] [(.ref a0)]))
  obtain ⟨T2, X2, e2, st2⟩ := instNo X1 hx hZ hown (hw _ (List.mem_of_getElem? (i := 51) rfl)) e1 E0 (own_nsNo (hw _ (List.mem_of_getElem? (i := 47) rfl)) (hw _ (List.mem_of_getElem? (i := 214) rfl)) (NS.step (hw _ (List.mem_of_getElem? (i := 47) rfl)) (NS.step (hw _ (List.mem_of_getElem? (i := 48) rfl)) (NS.step (hw _ (List.mem_of_getElem? (i := 49) rfl)) (own_nsRoot (hw _ (List.mem_of_getElem? (i := 50) rfl)) (hw _ (List.mem_of_getElem? (i := 214) rfl)) (by decide)) (by decide)) (by decide)) (by decide)) (by decide)) (g := (mkF m 8 #[.val (.ref a0), .unset] [(.ref a0)])) rfl rfl (hb hby d8_8)
  refine OGo.by st2 ?_
  show OGo p e below _ (T2.setTop (mkF m 11 #[.val (.ref a0), .unset] [(.int (0 : Int32))]))
  refine OGo.by (fun _ k => XS.ifYes X2.here hx rfl (pc0 := 11) (pc' := 31) rfl (hb hby d8_11) rfl ((if0 _ _).trans (teq (by decide : (0 : Int32) = (0 : Int32))).1) (by decide) (by decide) k) ?_
  show OGo p e below _ (T2.setTop (mkF m 31 #[.val (.ref a0), .unset] []))
  refine OGo.by (fun _ k => XS.aloadN X2.here hx rfl (hb hby d8_31) rfl rfl k) ?_
  show OGo p e below _ (T2.setTop (mkF m 32 #[.val (.ref a0), .unset] [(.ref a0)]))
  obtain ⟨cq3, kq3, q3a, q3b, q3c⟩ := isOf hZ e2 E0
  obtain ⟨_, _, ⟨T3, L3, k3, n3⟩, -, X3, ⟨Lc3, hQ3, l3, y3, z3⟩, st3⟩ := X2.interfaceBack hx (xi := (⟨"java/util/Collection", "isEmpty", "()Z"⟩ : MethodName)) (y := (⟨"java/util/ArrayList", "isEmpty", "()Z"⟩ : MethodName)) hown (mvT hZ (hw _ (List.mem_of_getElem? (i := 52) rfl))) (mvT hZ (hw _ (List.mem_of_getElem? (i := 53) rfl))) (mvT hZ (hw _ (List.mem_of_getElem? (i := 54) rfl))) (mvT hZ (hw _ (List.mem_of_getElem? (i := 55) rfl))) (mvT hZ (hw _ (List.mem_of_getElem? (i := 56) rfl))) (mvT hZ (hw _ (List.mem_of_getElem? (i := 57) rfl))) (mvT hZ (hw _ (List.mem_of_getElem? (i := 58) rfl))) (mvT hZ (hw _ (List.mem_of_getElem? (i := 59) rfl))) (by decide) (backOf (W := 0) (rm_emp2 l Z av0 hw [] a0 h0 n0 Z0 F0) hZ (hw _ (List.mem_of_getElem? (i := 60) rfl)) (hw _ (List.mem_of_getElem? (i := 2) rfl)) (by decide) (by decide)) q3a q3b q3c (g := (mkF m 32 #[.val (.ref a0), .unset] [(.ref a0)])) rfl (by rw [hml]; rfl) (Steps.refl _) (argsL := []) (rest := []) (lenOf own_pd6 rfl) rfl (by show 2 * 0 + _ ≤ _; exact Nat.le_of_eq rfl) (hb hby d8_32) (fun _ _ => ⟨rfl, e2, (by decide : 0 + 0 ≤ _), (by decide : 0 + 0 ≤ _)⟩)
  dsimp only [Pt.U, Pt.locs, Pt.cells, Pt.slots] at X3 l3 y3 z3 st3 hQ3
  subst l3 y3 z3
  obtain ⟨rfl, N3q, e3⟩ := hQ3
  have N3 := Fr.app N0 N3q
  refine OGo.of st3 ?_
  show OGo p e below _ (T3.setTop (mkF m 37 #[.val (.ref a0), .unset] [(.int (0 : Int32))]))
  refine OGo.by (fun _ k => XS.ifYes X3.here hx rfl (pc0 := 37) (pc' := 44) rfl (hb hby d8_37) rfl ((if0 _ _).trans (teq (by decide : (0 : Int32) = (0 : Int32))).1) (by decide) (by decide) k) ?_
  show OGo p e below _ (T3.setTop (mkF m 44 #[.val (.ref a0), .unset] []))
  refine OGo.by (fun _ k => XS.aloadN X3.here hx rfl (hb hby d8_44) rfl rfl k) ?_
  show OGo p e below _ (T3.setTop (mkF m 45 #[.val (.ref a0), .unset] [(.ref a0)]))
  obtain ⟨cq4, kq4, q4a, q4b, q4c⟩ := isOf hZ e3 E0
  obtain ⟨_, _, ⟨T4, L4, k4, n4⟩, -, X4, ⟨Lc4, hQ4, l4, y4, z4⟩, st4⟩ := X3.interfaceBack hx (xi := (⟨"java/util/Collection", "toArray", "()[Ljava/lang/Object;"⟩ : MethodName)) (y := (⟨"java/util/ArrayList", "toArray", "()[Ljava/lang/Object;"⟩ : MethodName)) hown (mvT hZ (hw _ (List.mem_of_getElem? (i := 173) rfl))) (mvT hZ (hw _ (List.mem_of_getElem? (i := 174) rfl))) (mvT hZ (hw _ (List.mem_of_getElem? (i := 175) rfl))) (mvT hZ (hw _ (List.mem_of_getElem? (i := 176) rfl))) (mvT hZ (hw _ (List.mem_of_getElem? (i := 177) rfl))) (mvT hZ (hw _ (List.mem_of_getElem? (i := 178) rfl))) (mvT hZ (hw _ (List.mem_of_getElem? (i := 179) rfl))) (mvT hZ (hw _ (List.mem_of_getElem? (i := 59) rfl))) (by decide) (backOf (W := 0) (rm_toa2 l Z av0 hw [] a0 d kd mr c0 c1 h0 n0 Z0 E0 F0 F1 A_d E_d M_0 Ec0 Ec1) hZ (hw _ (List.mem_of_getElem? (i := 180) rfl)) (hw _ (List.mem_of_getElem? (i := 2) rfl)) (by decide) (by decide)) q4a q4b q4c (g := (mkF m 45 #[.val (.ref a0), .unset] [(.ref a0)])) rfl (by rw [hml]; rfl) (Steps.refl _) (argsL := []) (rest := []) (lenOf own_pd3 rfl) rfl (by show 2 * 0 + _ ≤ _; exact Nat.le_of_eq rfl) (hb hby d8_45) (fun _ _ => ⟨rfl, e3, (by decide : 0 + 1 ≤ _), (by decide : 0 + 2 ≤ _)⟩)
  dsimp only [Pt.U, Pt.locs, Pt.cells, Pt.slots] at X4 l4 y4 z4 st4 hQ4
  subst l4 y4 z4
  obtain ⟨b_4, kb_4, rfl, N4q, Kc4, G4_0, G4_1, G4_2, G4_3, G4_4⟩ := hQ4
  have N4 := Fr.app N3 N4q
  have ne_a0_b_4 : a0 ≠ b_4 := Nat.ne_of_lt (Nat.lt_of_lt_of_le E0.lt G4_0)
  have ne_d_b_4 : d ≠ b_4 := Nat.ne_of_lt (Nat.lt_of_lt_of_le A_d.lt G4_0)
  have ne_c0_b_4 : c0 ≠ b_4 := Nat.ne_of_lt (Nat.lt_of_lt_of_le Ec0.lt G4_0)
  have ne_c1_b_4 : c1 ≠ b_4 := Nat.ne_of_lt (Nat.lt_of_lt_of_le Ec1.lt G4_0)
  have g_b_4 : n0 ≤ b_4 := Nat.le_trans Z0 G4_0
  have sz_b_4 : h0.size ≤ b_4 := Nat.le_trans (Nat.le_refl _) G4_0
  have K4 : Keep h0 T4.heap [] := ((Keep.refl h0 [])).trans Kc4 (all0 (P := fun x => x ∈ ([] : List Addr) ∨ h0.size ≤ x))
  refine OGo.of st4 ?_
  show OGo p e below _ (T4.setTop (mkF m 50 #[.val (.ref a0), .unset] [(.ref b_4)]))
  have f6 : Exa Z T4.heap c0 "com/example/kept_inbox/keptinbox/UnreadConversation" := (Ec0.keep Kc4)
  have f7 : Exa Z T4.heap c1 "com/example/kept_inbox/keptinbox/UnreadConversation" := (Ec1.keep Kc4)
  obtain ⟨_, _, ⟨T5, L5, k5, n5⟩, -, X5, ⟨Lc5, hQ5, l5, y5, z5⟩, st5⟩ := Jvm.LawKit.callS X4 hx (y := (⟨"java/util/List", "of", "([Ljava/lang/Object;)Ljava/util/List;"⟩ : MethodName)) hown (mvT hZ (hw _ (List.mem_of_getElem? (i := 203) rfl))) (mvT hZ (hw _ (List.mem_of_getElem? (i := 204) rfl))) (mvT hZ (hw _ (List.mem_of_getElem? (i := 40) rfl))) (mvT hZ (hw _ (List.mem_of_getElem? (i := 205) rfl))) (by decide) (backOf (W := 0) (rm_lof2 l Z av0 hw [] b_4 kb_4 c0 c1 T4.heap n0 (Nat.le_trans Z0 K4.1) G4_2 f6 f7) hZ (hw _ (List.mem_of_getElem? (i := 205) rfl)) (hw _ (List.mem_of_getElem? (i := 40) rfl)) (by decide) (by decide)) (g := (mkF m 50 #[.val (.ref a0), .unset] [(.ref b_4)])) rfl (by rw [hml]; rfl) (argsL := [(.ref b_4)]) (rest := []) (lenOf own_pd12 rfl) rfl (by show 2 * 0 + _ ≤ _; exact Nat.le_of_eq rfl) (hb hby d8_50) (fun _ _ => ⟨rfl, rfl, (by decide : 1 + 1 ≤ _), (by decide : 2 + 2 ≤ _)⟩)
  dsimp only [Pt.U, Pt.locs, Pt.cells, Pt.slots] at X5 l5 y5 z5 st5 hQ5
  subst l5 y5 z5
  obtain ⟨b_5, rfl, N5q, Kc5, G5_0, G5_1, G5_2, G5_3, G5_4⟩ := hQ5
  have N5 := Fr.app N4 N5q
  have f8 : Exa Z T4.heap a0 "java/util/ArrayList" := (E0.keep Kc4)
  have ne_a0_b_5 : a0 ≠ b_5 := Nat.ne_of_lt (Nat.lt_of_lt_of_le f8.lt G5_0)
  have f9 : Arv Z T4.heap d kd (.object "java/lang/Object") (10 : Int32) [(.ref c0), (.ref c1), .null, .null, .null, .null, .null, .null, .null, .null] .null := (A_d.keep Kc4 nin0)
  have ne_d_b_5 : d ≠ b_5 := Nat.ne_of_lt (Nat.lt_of_lt_of_le f9.lt G5_0)
  have ne_c0_b_5 : c0 ≠ b_5 := Nat.ne_of_lt (Nat.lt_of_lt_of_le f6.lt G5_0)
  have ne_c1_b_5 : c1 ≠ b_5 := Nat.ne_of_lt (Nat.lt_of_lt_of_le f7.lt G5_0)
  have ne_b_4_b_5 : b_4 ≠ b_5 := Nat.ne_of_lt (Nat.lt_of_lt_of_le G4_2.lt G5_0)
  have g_b_5 : n0 ≤ b_5 := Nat.le_trans (Nat.le_trans Z0 K4.1) G5_0
  have sz_b_5 : h0.size ≤ b_5 := Nat.le_trans K4.1 G5_0
  have K5 : Keep h0 T5.heap [] := (K4).trans Kc5 (all0 (P := fun x => x ∈ ([] : List Addr) ∨ h0.size ≤ x))
  refine OGo.by st5 ?_
  show OGo p e below _ (T5.setTop (mkF m 53 #[.val (.ref a0), .unset] [(.ref b_5)]))
  obtain ⟨fs, hr, hrun, hended, hW, hsame⟩ := X5.leave (v := some (.ref b_5)) (fun h => by rw [Bd.returns] at h; cases h)
  refine OGo.ret (retOut X5 hx Bd.returns rfl (Or.inr (Or.inr (Or.inr (Or.inr ⟨rfl, rfl, rfl⟩)))) (hb hby d8_53) hr) hrun hended ⟨_, _, rfl, ?_, ⟨_, rfl⟩, hW, hsame.mono (by decide) (by decide)⟩
  show Q_rm_lc2 Z a0 d kd mr c0 c1 h0 n0 _ T5.heap _
  exact ⟨b_5, rfl, N5, K5, sz_b_5, g_b_5, G5_2, G5_3, G5_4⟩
theorem ef_rm_co2 (m : MethodId) (a0 : Addr) : entryFrame m #[(.ref a0)] 1 = mkF m 0 #[.val (.ref a0)] [] := by first | (simp [entryFrame, mkF, argsToLocals, Value.category]; done) | rfl
def Q_rm_co2 (Z : State) (a0 : Addr) (d : Addr) (kd : ClassId) (mr : Addr) (c0 : Addr) (c1 : Addr) (h0 : Heap) (n0 : Nat) (v : Option Value) (h : Heap) (L : List Loc) : Prop := ∃ b : Addr, v = some (.ref b) ∧ Fr n0 L ∧ Keep h0 h [] ∧ (h0.size ≤ b) ∧ (n0 ≤ b) ∧ (Exa Z h b "java/util/ImmutableCollections$List12") ∧ (Fld Z h b "java/util/ImmutableCollections$List12" "e0" "Ljava/lang/Object;" (.ref c0)) ∧ (Fld Z h b "java/util/ImmutableCollections$List12" "e1" "Ljava/lang/Object;" (.ref c1))
set_option maxRecDepth 65536 in
set_option maxHeartbeats 40000000 in
theorem rm_co2 (l : Launch) (Z : State) (av0 : Array Value) (hw : ∀ d ∈ tables_1, d.before av0 Z = true) (ws : List Jvm.Cond) (a0 : Addr) (d : Addr) (kd : ClassId) (mr : Addr) (c0 : Addr) (c1 : Addr) (h0 : Heap) (n0 : Nat) (Z0 : n0 ≤ h0.size) (E0 : Exa Z h0 a0 "java/util/ArrayList") (F0 : Fld Z h0 a0 "java/util/ArrayList" "size" "I" (.int (2 : Int32))) (F1 : Fld Z h0 a0 "java/util/ArrayList" "elementData" "[Ljava/lang/Object;" (.ref d)) (A_d : Arv Z h0 d kd (.object "java/lang/Object") (10 : Int32) [(.ref c0), (.ref c1), .null, .null, .null, .null, .null, .null, .null, .null] .null) (E_d : Exa Z h0 d "[Ljava/lang/Object;") (M_0 : Mir Z "[Ljava/lang/Object;" mr) (Ec0 : Exa Z h0 c0 "com/example/kept_inbox/keptinbox/UnreadConversation") (Ec1 : Exa Z h0 c1 "com/example/kept_inbox/keptinbox/UnreadConversation") :
    MetFree l (⟨"java/util/List", "copyOf", "(Ljava/util/Collection;)Ljava/util/List;"⟩ : MethodName) (head1 (Jvm.Cond.code (⟨"java/util/List", "copyOf", "(Ljava/util/Collection;)Ljava/util/List;"⟩ : MethodName) jdk_40_method_48_code 1 (some (.object "java/util/List")) :: ws) ({ frames := 7, cells := 2, slots := 4, locals := 89 } : Room)) (fun a U => a = #[(.ref a0)] ∧ Z.Warmed39 U.vm ∧ U.heap = h0) (fun _ _ _ _ _ => True) (fun _ U o U' => ∃ v L, o = .returned v ∧ Q_rm_co2 Z a0 d kd mr c0 c1 h0 n0 v U'.heap L ∧ FrameEnd U o U' L ({ frames := 7, cells := 2, slots := 4, locals := 89 } : Room).cells ({ frames := 7, cells := 2, slots := 4, locals := 89 } : Room).slots) := by
  refine MetFree.of_bodySF (plainFor_of_name own_pn7) hisR ?_
  intro p e s m args below meth c s₁ Bd hml0 hP hK
  obtain ⟨rfl, hZ, hh⟩ := hP
  have hx := Bd.exec
  have hby := Bd.bytes
  have hml : c.maxLocals = 1 := hml0
  have hown : s.vm.findClass "java/util/List" = some m.cls := findClass_of_methodNamed Bd.named
  have hnm := (name_of_methodNamed Bd.named Bd.method).1
  have X0 : Stand p l e ({ frames := 7, cells := 2, slots := 4, locals := 89 } : Room) s m #[(.ref a0)] below meth c s₁ [] 0 0 := Stand.of_body Bd
  have e0 : s₁.heap = h0 := by rw [← hh, Bd.state]; rfl
  have N0 := Fr.nil n0
  refine OGo.by (P := fun U' o => ∃ v L, o = .returned v ∧ Q_rm_co2 Z a0 d kd mr c0 c1 h0 n0 v U'.heap L ∧ FrameEnd s o U' L ({ frames := 7, cells := 2, slots := 4, locals := 89 } : Room).cells ({ frames := 7, cells := 2, slots := 4, locals := 89 } : Room).slots) (fun T_ k_ => castTop (ef_rm_co2 m a0) k_) ?_
  show OGo p e below _ (s₁.setTop (mkF m 0 #[.val (.ref a0)] []))
  refine OGo.by (fun _ k => XS.aloadN X0.here hx rfl (hb hby d7_0) rfl rfl k) ?_
  show OGo p e below _ (s₁.setTop (mkF m 1 #[.val (.ref a0)] [(.ref a0)]))
  obtain ⟨_, _, ⟨T1, L1, k1, n1⟩, -, X1, ⟨Lc1, hQ1, l1, y1, z1⟩, st1⟩ := Jvm.LawKit.callS X0 hx (y := (⟨"java/util/ImmutableCollections", "listCopy", "(Ljava/util/Collection;)Ljava/util/List;"⟩ : MethodName)) hown (mvT hZ (hw _ (List.mem_of_getElem? (i := 42) rfl))) (mvT hZ (hw _ (List.mem_of_getElem? (i := 43) rfl))) (mvT hZ (hw _ (List.mem_of_getElem? (i := 44) rfl))) (mvT hZ (hw _ (List.mem_of_getElem? (i := 45) rfl))) (by decide) (backOf (W := 0) (rm_lc2 l Z av0 hw [] a0 d kd mr c0 c1 h0 n0 Z0 E0 F0 F1 A_d E_d M_0 Ec0 Ec1) hZ (hw _ (List.mem_of_getElem? (i := 45) rfl)) (hw _ (List.mem_of_getElem? (i := 44) rfl)) (by decide) (by decide)) (g := (mkF m 1 #[.val (.ref a0)] [(.ref a0)])) rfl (by rw [hml]; rfl) (argsL := [(.ref a0)]) (rest := []) (lenOf own_pd8 rfl) rfl (by show 2 * 0 + _ ≤ _; exact Nat.le_of_eq rfl) (hb hby d7_1) (fun _ _ => ⟨rfl, e0, (by decide : 0 + 2 ≤ _), (by decide : 0 + 4 ≤ _)⟩)
  dsimp only [Pt.U, Pt.locs, Pt.cells, Pt.slots] at X1 l1 y1 z1 st1 hQ1
  subst l1 y1 z1
  obtain ⟨b_1, rfl, N1q, Kc1, G1_0, G1_1, G1_2, G1_3, G1_4⟩ := hQ1
  have N1 := Fr.app N0 N1q
  have ne_a0_b_1 : a0 ≠ b_1 := Nat.ne_of_lt (Nat.lt_of_lt_of_le E0.lt G1_0)
  have ne_d_b_1 : d ≠ b_1 := Nat.ne_of_lt (Nat.lt_of_lt_of_le A_d.lt G1_0)
  have ne_c0_b_1 : c0 ≠ b_1 := Nat.ne_of_lt (Nat.lt_of_lt_of_le Ec0.lt G1_0)
  have ne_c1_b_1 : c1 ≠ b_1 := Nat.ne_of_lt (Nat.lt_of_lt_of_le Ec1.lt G1_0)
  have g_b_1 : n0 ≤ b_1 := Nat.le_trans Z0 G1_0
  have sz_b_1 : h0.size ≤ b_1 := Nat.le_trans (Nat.le_refl _) G1_0
  have K1 : Keep h0 T1.heap [] := ((Keep.refl h0 [])).trans Kc1 (all0 (P := fun x => x ∈ ([] : List Addr) ∨ h0.size ≤ x))
  refine OGo.by st1 ?_
  show OGo p e below _ (T1.setTop (mkF m 4 #[.val (.ref a0)] [(.ref b_1)]))
  obtain ⟨fs, hr, hrun, hended, hW, hsame⟩ := X1.leave (v := some (.ref b_1)) (fun h => by rw [Bd.returns] at h; cases h)
  refine OGo.ret (retOut X1 hx Bd.returns rfl (Or.inr (Or.inr (Or.inr (Or.inr ⟨rfl, rfl, rfl⟩)))) (hb hby d7_4) hr) hrun hended ⟨_, _, rfl, ?_, ⟨_, rfl⟩, hW, hsame.mono (by decide) (by decide)⟩
  show Q_rm_co2 Z a0 d kd mr c0 c1 h0 n0 _ T1.heap _
  exact ⟨b_1, rfl, N1, K1, sz_b_1, g_b_1, G1_2, G1_3, G1_4⟩
theorem ef_rm_un2 (m : MethodId) (a0 : Addr) (a1 : Addr) : entryFrame m #[(.ref a0), (.ref a1)] 2 = mkF m 0 #[.val (.ref a0), .val (.ref a1)] [] := by first | (simp [entryFrame, mkF, argsToLocals, Value.category]; done) | rfl
def Q_rm_un2 (Z : State) (a0 : Addr) (a1 : Addr) (d : Addr) (kd : ClassId) (mr : Addr) (c0 : Addr) (c1 : Addr) (h0 : Heap) (n0 : Nat) (v : Option Value) (h : Heap) (L : List Loc) : Prop := ∃ b : Addr, v = none ∧ Fr n0 L ∧ Keep h0 h [a0] ∧ (h0.size ≤ b) ∧ (n0 ≤ b) ∧ (Exa Z h b "java/util/ImmutableCollections$List12") ∧ (Fld Z h b "java/util/ImmutableCollections$List12" "e0" "Ljava/lang/Object;" (.ref c0)) ∧ (Fld Z h b "java/util/ImmutableCollections$List12" "e1" "Ljava/lang/Object;" (.ref c1)) ∧ (Exa Z h a0 "com/example/kept_inbox/keptinbox/Unread") ∧ (Fld Z h a0 "com/example/kept_inbox/keptinbox/Unread" "conversations" "Ljava/util/List;" (.ref b))
set_option maxRecDepth 65536 in
set_option maxHeartbeats 40000000 in
theorem rm_un2 (l : Launch) (Z : State) (av0 : Array Value) (hw : ∀ d ∈ tables_1, d.before av0 Z = true) (ws : List Jvm.Cond) (a0 : Addr) (a1 : Addr) (d : Addr) (kd : ClassId) (mr : Addr) (c0 : Addr) (c1 : Addr) (h0 : Heap) (n0 : Nat) (Z0 : n0 ≤ h0.size) (E0 : Exa Z h0 a1 "java/util/ArrayList") (F0 : Fld Z h0 a1 "java/util/ArrayList" "size" "I" (.int (2 : Int32))) (F1 : Fld Z h0 a1 "java/util/ArrayList" "elementData" "[Ljava/lang/Object;" (.ref d)) (A_d : Arv Z h0 d kd (.object "java/lang/Object") (10 : Int32) [(.ref c0), (.ref c1), .null, .null, .null, .null, .null, .null, .null, .null] .null) (E_d : Exa Z h0 d "[Ljava/lang/Object;") (M_0 : Mir Z "[Ljava/lang/Object;" mr) (Ec0 : Exa Z h0 c0 "com/example/kept_inbox/keptinbox/UnreadConversation") (Ec1 : Exa Z h0 c1 "com/example/kept_inbox/keptinbox/UnreadConversation") (E1 : Exa Z h0 a0 "com/example/kept_inbox/keptinbox/Unread") (F9 : Fld Z h0 a0 "com/example/kept_inbox/keptinbox/Unread" "conversations" "Ljava/util/List;" .null) (g_a0 : n0 ≤ a0) :
    MetFree l (⟨"com/example/kept_inbox/keptinbox/Unread", "<init>", "(Ljava/util/List;)V"⟩ : MethodName) (head1 (Jvm.Cond.code (⟨"com/example/kept_inbox/keptinbox/Unread", "<init>", "(Ljava/util/List;)V"⟩ : MethodName) prog_7_method_1_code 2 none :: ws) ({ frames := 8, cells := 2, slots := 4, locals := 101 } : Room)) (fun a U => a = #[(.ref a0), (.ref a1)] ∧ Z.Warmed39 U.vm ∧ U.heap = h0) (fun _ _ _ _ _ => True) (fun _ U o U' => ∃ v L, o = .returned v ∧ Q_rm_un2 Z a0 a1 d kd mr c0 c1 h0 n0 v U'.heap L ∧ FrameEnd U o U' L ({ frames := 8, cells := 2, slots := 4, locals := 101 } : Room).cells ({ frames := 8, cells := 2, slots := 4, locals := 101 } : Room).slots) := by
  refine MetFree.of_bodySF (plainFor_of_name own_pn5) hisR ?_
  intro p e s m args below meth c s₁ Bd hml0 hP hK
  obtain ⟨rfl, hZ, hh⟩ := hP
  have hx := Bd.exec
  have hby := Bd.bytes
  have hml : c.maxLocals = 2 := hml0
  have hown : s.vm.findClass "com/example/kept_inbox/keptinbox/Unread" = some m.cls := findClass_of_methodNamed Bd.named
  have hnm := (name_of_methodNamed Bd.named Bd.method).1
  have X0 : Stand p l e ({ frames := 8, cells := 2, slots := 4, locals := 101 } : Room) s m #[(.ref a0), (.ref a1)] below meth c s₁ [] 0 0 := Stand.of_body Bd
  have e0 : s₁.heap = h0 := by rw [← hh, Bd.state]; rfl
  have N0 := Fr.nil n0
  refine OGo.by (P := fun U' o => ∃ v L, o = .returned v ∧ Q_rm_un2 Z a0 a1 d kd mr c0 c1 h0 n0 v U'.heap L ∧ FrameEnd s o U' L ({ frames := 8, cells := 2, slots := 4, locals := 101 } : Room).cells ({ frames := 8, cells := 2, slots := 4, locals := 101 } : Room).slots) (fun T_ k_ => castTop (ef_rm_un2 m a0 a1) k_) ?_
  show OGo p e below _ (s₁.setTop (mkF m 0 #[.val (.ref a0), .val (.ref a1)] []))
  refine OGo.by (fun _ k => XS.aloadN X0.here hx rfl (hb hby d5_0) rfl rfl k) ?_
  show OGo p e below _ (s₁.setTop (mkF m 1 #[.val (.ref a0), .val (.ref a1)] [(.ref a0)]))
  obtain ⟨_, _, ⟨T1, L1, k1, n1⟩, -, X1, ⟨Lc1, hQ1, l1, y1, z1⟩, st1⟩ := X0.specialBack hx (y := (⟨"java/lang/Record", "<init>", "()V"⟩ : MethodName)) rfl hown (mvT hZ (hw _ (List.mem_of_getElem? (i := 32) rfl))) (mvT hZ (hw _ (List.mem_of_getElem? (i := 33) rfl))) (mvT hZ (hw _ (List.mem_of_getElem? (i := 36) rfl))) (by decide) (backOf (W := 0) (rm6 l Z av0 hw [] a0 h0 n0 Z0) hZ (hw _ (List.mem_of_getElem? (i := 36) rfl)) (hw _ (List.mem_of_getElem? (i := 35) rfl)) (by decide) (by decide)) (g := (mkF m 1 #[.val (.ref a0), .val (.ref a1)] [(.ref a0)])) rfl (by rw [hml]; rfl) (Steps.refl _) (a := a0) (argsL := []) (rest := []) (lenOf own_pd0 rfl) rfl (by show 2 * 0 + _ ≤ _; exact Nat.le_of_eq rfl) (hb hby d5_1) (fun _ _ => ⟨rfl, e0, (by decide : 0 + 0 ≤ _), (by decide : 0 + 0 ≤ _)⟩)
  dsimp only [Pt.U, Pt.locs, Pt.cells, Pt.slots] at X1 l1 y1 z1 st1 hQ1
  subst l1 y1 z1
  obtain ⟨rfl, N1q, e1⟩ := hQ1
  have N1 := Fr.app N0 N1q
  refine OGo.of st1 ?_
  show OGo p e below _ (T1.setTop (mkF m 4 #[.val (.ref a0), .val (.ref a1)] []))
  refine OGo.by (fun _ k => XS.aloadN X1.here hx rfl (hb hby d5_4) rfl rfl k) ?_
  show OGo p e below _ (T1.setTop (mkF m 5 #[.val (.ref a0), .val (.ref a1)] [(.ref a1)]))
  obtain ⟨_, _, ⟨T2, L2, k2, n2⟩, -, X2, ⟨Lc2, hQ2, l2, y2, z2⟩, st2⟩ := Jvm.LawKit.callS X1 hx (y := (⟨"java/util/List", "copyOf", "(Ljava/util/Collection;)Ljava/util/List;"⟩ : MethodName)) hown (mvT hZ (hw _ (List.mem_of_getElem? (i := 38) rfl))) (mvT hZ (hw _ (List.mem_of_getElem? (i := 39) rfl))) (mvT hZ (hw _ (List.mem_of_getElem? (i := 40) rfl))) (mvT hZ (hw _ (List.mem_of_getElem? (i := 41) rfl))) (by decide) (backOf (W := 0) (rm_co2 l Z av0 hw [] a1 d kd mr c0 c1 h0 n0 Z0 E0 F0 F1 A_d E_d M_0 Ec0 Ec1) hZ (hw _ (List.mem_of_getElem? (i := 41) rfl)) (hw _ (List.mem_of_getElem? (i := 40) rfl)) (by decide) (by decide)) (g := (mkF m 5 #[.val (.ref a0), .val (.ref a1)] [(.ref a1)])) rfl (by rw [hml]; rfl) (argsL := [(.ref a1)]) (rest := []) (lenOf own_pd8 rfl) rfl (by show 2 * 0 + _ ≤ _; exact Nat.le_of_eq rfl) (hb hby d5_5) (fun _ _ => ⟨rfl, e1, (by decide : 0 + 2 ≤ _), (by decide : 0 + 4 ≤ _)⟩)
  dsimp only [Pt.U, Pt.locs, Pt.cells, Pt.slots] at X2 l2 y2 z2 st2 hQ2
  subst l2 y2 z2
  obtain ⟨b_2, rfl, N2q, Kc2, G2_0, G2_1, G2_2, G2_3, G2_4⟩ := hQ2
  have N2 := Fr.app N1 N2q
  have ne_a1_b_2 : a1 ≠ b_2 := Nat.ne_of_lt (Nat.lt_of_lt_of_le E0.lt G2_0)
  have ne_d_b_2 : d ≠ b_2 := Nat.ne_of_lt (Nat.lt_of_lt_of_le A_d.lt G2_0)
  have ne_c0_b_2 : c0 ≠ b_2 := Nat.ne_of_lt (Nat.lt_of_lt_of_le Ec0.lt G2_0)
  have ne_c1_b_2 : c1 ≠ b_2 := Nat.ne_of_lt (Nat.lt_of_lt_of_le Ec1.lt G2_0)
  have ne_a0_b_2 : a0 ≠ b_2 := Nat.ne_of_lt (Nat.lt_of_lt_of_le E1.lt G2_0)
  have g_b_2 : n0 ≤ b_2 := Nat.le_trans Z0 G2_0
  have sz_b_2 : h0.size ≤ b_2 := Nat.le_trans (Nat.le_refl _) G2_0
  have K2 : Keep h0 T2.heap [a0] := ((Keep.refl h0 [a0])).trans Kc2 (all0 (P := fun x => x ∈ ([a0] : List Addr) ∨ h0.size ≤ x))
  refine OGo.by st2 ?_
  show OGo p e below _ (T2.setTop (mkF m 8 #[.val (.ref a0), .val (.ref a1)] [(.ref b_2)]))
  refine OGo.by (fun _ k => XS.astoreN X2.here hx rfl (hb hby d5_8) rfl rfl (l' := #[.val (.ref a0), .val (.ref b_2)]) rfl k) ?_
  show OGo p e below _ (T2.setTop (mkF m 9 #[.val (.ref a0), .val (.ref b_2)] []))
  refine OGo.by (fun _ k => XS.aloadN X2.here hx rfl (hb hby d5_9) rfl rfl k) ?_
  show OGo p e below _ (T2.setTop (mkF m 10 #[.val (.ref a0), .val (.ref b_2)] [(.ref a0)]))
  refine OGo.by (fun _ k => XS.aloadN X2.here hx rfl (hb hby d5_10) rfl rfl k) ?_
  show OGo p e below _ (T2.setTop (mkF m 11 #[.val (.ref a0), .val (.ref b_2)] [(.ref b_2), (.ref a0)]))
  have f3 : Exa Z T2.heap a0 "com/example/kept_inbox/keptinbox/Unread" := (E1.keep Kc2)
  have f4 : Fld Z T2.heap a0 "com/example/kept_inbox/keptinbox/Unread" "conversations" "Ljava/util/List;" .null := (F9.keep Kc2 nin0)
  obtain ⟨T5, h5, X5, e5, W5, st5⟩ := putF X2 hx hZ hown (host := "") (Or.inl (hw _ (List.mem_of_getElem? (i := 67) rfl))) Via.refl rfl f4 f3 (Or.inr ⟨(hw _ (List.mem_of_getElem? (i := 68) rfl)), rfl, hnm⟩) (hw _ (List.mem_of_getElem? (i := 27) rfl)) (ty := (.object "java/util/List")) (by decide) rfl rfl (g := (mkF m 11 #[.val (.ref a0), .val (.ref b_2)] [(.ref b_2), (.ref a0)])) rfl rfl (hb hby d5_11)
  refine OGo.by st5 ?_
  have Fw5 := f4.same W5
  have N5 := Fr.snoc X5 N2 g_a0
  have K5 : Keep h0 h5 [a0] := (K2).wr W5 (Or.inl (List.mem_of_getElem? (i := 0) rfl))
  show OGo p e below _ (T5.setTop (mkF m 14 #[.val (.ref a0), .val (.ref b_2)] []))
  obtain ⟨fs, hr, hrun, hended, hW, hsame⟩ := X5.leave (v := none) (fun _ => rfl)
  refine OGo.ret (X5.returnOut hx Bd.returns (hb hby d5_14) hr) hrun hended ⟨_, _, rfl, ?_, ⟨_, rfl⟩, hW, hsame.mono (by decide) (by decide)⟩
  show Q_rm_un2 Z a0 a1 d kd mr c0 c1 h0 n0 _ T5.heap _
  rw [e5]
  have f6 : Exa Z h5 b_2 "java/util/ImmutableCollections$List12" := (G2_2.wr W5)
  have f7 : Fld Z h5 b_2 "java/util/ImmutableCollections$List12" "e0" "Ljava/lang/Object;" (.ref c0) := (G2_3.other W5 (Or.inl (Ne.symm ne_a0_b_2)))
  have f8 : Fld Z h5 b_2 "java/util/ImmutableCollections$List12" "e1" "Ljava/lang/Object;" (.ref c1) := (G2_4.other W5 (Or.inl (Ne.symm ne_a0_b_2)))
  have f9 : Exa Z h5 a0 "com/example/kept_inbox/keptinbox/Unread" := (f3.wr W5)
  exact ⟨b_2, rfl, N5, K5, sz_b_2, g_b_2, f6, f7, f8, f9, Fw5⟩
theorem ef_rm_emp3 (m : MethodId) (a0 : Addr) : entryFrame m #[(.ref a0)] 1 = mkF m 0 #[.val (.ref a0)] [] := by first | (simp [entryFrame, mkF, argsToLocals, Value.category]; done) | rfl
def Q_rm_emp3 (Z : State) (a0 : Addr) (h0 : Heap) (n0 : Nat) (v : Option Value) (h : Heap) (L : List Loc) : Prop := v = some (.int (0 : Int32)) ∧ Fr n0 L ∧ h = h0
set_option maxRecDepth 65536 in
set_option maxHeartbeats 40000000 in
theorem rm_emp3 (l : Launch) (Z : State) (av0 : Array Value) (hw : ∀ d ∈ tables_1, d.before av0 Z = true) (ws : List Jvm.Cond) (a0 : Addr) (h0 : Heap) (n0 : Nat) (Z0 : n0 ≤ h0.size) (F0 : Fld Z h0 a0 "java/util/ArrayList" "size" "I" (.int (3 : Int32))) :
    MetFree l (⟨"java/util/ArrayList", "isEmpty", "()Z"⟩ : MethodName) (head1 (Jvm.Cond.code (⟨"java/util/ArrayList", "isEmpty", "()Z"⟩ : MethodName) jdk_38_method_9_code 1 (some .boolean) :: ws) ({ frames := 0, cells := 0, slots := 0, locals := 0 } : Room)) (fun a U => a = #[(.ref a0)] ∧ Z.Warmed39 U.vm ∧ U.heap = h0) (fun _ _ _ _ _ => True) (fun _ U o U' => ∃ v L, o = .returned v ∧ Q_rm_emp3 Z a0 h0 n0 v U'.heap L ∧ FrameEnd U o U' L ({ frames := 0, cells := 0, slots := 0, locals := 0 } : Room).cells ({ frames := 0, cells := 0, slots := 0, locals := 0 } : Room).slots) := by
  refine MetFree.of_bodySF (plainFor_of_name own_pn9) hisR ?_
  intro p e s m args below meth c s₁ Bd hml0 hP hK
  obtain ⟨rfl, hZ, hh⟩ := hP
  have hx := Bd.exec
  have hby := Bd.bytes
  have hml : c.maxLocals = 1 := hml0
  have hown : s.vm.findClass "java/util/ArrayList" = some m.cls := findClass_of_methodNamed Bd.named
  have hnm := (name_of_methodNamed Bd.named Bd.method).1
  have X0 : Stand p l e ({ frames := 0, cells := 0, slots := 0, locals := 0 } : Room) s m #[(.ref a0)] below meth c s₁ [] 0 0 := Stand.of_body Bd
  have e0 : s₁.heap = h0 := by rw [← hh, Bd.state]; rfl
  have N0 := Fr.nil n0
  refine OGo.by (P := fun U' o => ∃ v L, o = .returned v ∧ Q_rm_emp3 Z a0 h0 n0 v U'.heap L ∧ FrameEnd s o U' L ({ frames := 0, cells := 0, slots := 0, locals := 0 } : Room).cells ({ frames := 0, cells := 0, slots := 0, locals := 0 } : Room).slots) (fun T_ k_ => castTop (ef_rm_emp3 m a0) k_) ?_
  show OGo p e below _ (s₁.setTop (mkF m 0 #[.val (.ref a0)] []))
  refine OGo.by (fun _ k => XS.aloadN X0.here hx rfl (hb hby d9_0) rfl rfl k) ?_
  show OGo p e below _ (s₁.setTop (mkF m 1 #[.val (.ref a0)] [(.ref a0)]))
  obtain ⟨T1, X1, e1, st1⟩ := getF X0 hx hZ hown (host := "") (Or.inl (hw _ (List.mem_of_getElem? (i := 61) rfl))) Via.refl e0 F0 (g := (mkF m 1 #[.val (.ref a0)] [(.ref a0)])) rfl rfl (hb hby d9_1)
  refine OGo.by st1 ?_
  show OGo p e below _ (T1.setTop (mkF m 4 #[.val (.ref a0)] [(.int (3 : Int32))]))
  refine OGo.by (fun _ k => XS.ifYes X1.here hx rfl (pc0 := 4) (pc' := 11) rfl (hb hby d9_4) rfl ((if0 _ _).trans (feq (by decide : ¬ ((3 : Int32) = (0 : Int32)))).2) (by decide) (by decide) k) ?_
  show OGo p e below _ (T1.setTop (mkF m 11 #[.val (.ref a0)] []))
  refine OGo.by (fun _ k => XS.iconst X1.here hx rfl (hb hby d9_11) k) ?_
  show OGo p e below _ (T1.setTop (mkF m 12 #[.val (.ref a0)] [(.int (0 : Int32))]))
  obtain ⟨fs, hr, hrun, hended, hW, hsame⟩ := X1.leave (v := some (.int (0 : Int32))) (fun h => by rw [Bd.returns] at h; cases h)
  refine OGo.ret (retN X1 hx (t := .boolean) Bd.returns (by simp) (hb hby d9_12) hr) hrun hended ⟨_, _, rfl, ?_, ⟨_, rfl⟩, hW, hsame.mono (by decide) (by decide)⟩
  show Q_rm_emp3 Z a0 h0 n0 _ T1.heap _
  rw [e1]
  exact ⟨rfl, N0, rfl⟩
theorem ef_rm_min3 (m : MethodId)  : entryFrame m #[(.int (10 : Int32)), (.int (3 : Int32))] 2 = mkF m 0 #[.val (.int (10 : Int32)), .val (.int (3 : Int32))] [] := by first | (simp [entryFrame, mkF, argsToLocals, Value.category]; done) | rfl
def Q_rm_min3 (Z : State)  (h0 : Heap) (n0 : Nat) (v : Option Value) (h : Heap) (L : List Loc) : Prop := v = some (.int (3 : Int32)) ∧ Fr n0 L ∧ h = h0
set_option maxRecDepth 65536 in
set_option maxHeartbeats 40000000 in
theorem rm_min3 (l : Launch) (Z : State) (av0 : Array Value) (hw : ∀ d ∈ tables_1, d.before av0 Z = true) (ws : List Jvm.Cond)  (h0 : Heap) (n0 : Nat) (Z0 : n0 ≤ h0.size) :
    MetFree l (⟨"java/lang/Math", "min", "(II)I"⟩ : MethodName) (head1 (Jvm.Cond.code (⟨"java/lang/Math", "min", "(II)I"⟩ : MethodName) jdk_29_method_69_code 2 (some .int) :: ws) ({ frames := 0, cells := 0, slots := 0, locals := 0 } : Room)) (fun a U => a = #[(.int (10 : Int32)), (.int (3 : Int32))] ∧ Z.Warmed39 U.vm ∧ U.heap = h0) (fun _ _ _ _ _ => True) (fun _ U o U' => ∃ v L, o = .returned v ∧ Q_rm_min3 Z  h0 n0 v U'.heap L ∧ FrameEnd U o U' L ({ frames := 0, cells := 0, slots := 0, locals := 0 } : Room).cells ({ frames := 0, cells := 0, slots := 0, locals := 0 } : Room).slots) := by
  refine MetFree.of_bodySF (Jvm.Free.JP.mathPlain rfl (by decide +kernel)) hisR ?_
  intro p e s m args below meth c s₁ Bd hml0 hP hK
  obtain ⟨rfl, hZ, hh⟩ := hP
  have hx := Bd.exec
  have hby := Bd.bytes
  have hml : c.maxLocals = 2 := hml0
  have hown : s.vm.findClass "java/lang/Math" = some m.cls := findClass_of_methodNamed Bd.named
  have hnm := (name_of_methodNamed Bd.named Bd.method).1
  have X0 : Stand p l e ({ frames := 0, cells := 0, slots := 0, locals := 0 } : Room) s m #[(.int (10 : Int32)), (.int (3 : Int32))] below meth c s₁ [] 0 0 := Stand.of_body Bd
  have e0 : s₁.heap = h0 := by rw [← hh, Bd.state]; rfl
  have N0 := Fr.nil n0
  refine OGo.by (P := fun U' o => ∃ v L, o = .returned v ∧ Q_rm_min3 Z  h0 n0 v U'.heap L ∧ FrameEnd s o U' L ({ frames := 0, cells := 0, slots := 0, locals := 0 } : Room).cells ({ frames := 0, cells := 0, slots := 0, locals := 0 } : Room).slots) (fun T_ k_ => castTop (ef_rm_min3 m ) k_) ?_
  show OGo p e below _ (s₁.setTop (mkF m 0 #[.val (.int (10 : Int32)), .val (.int (3 : Int32))] []))
  refine OGo.by (fun _ k => XS.iloadN X0.here hx rfl (hb hby d25_0) rfl k) ?_
  show OGo p e below _ (s₁.setTop (mkF m 1 #[.val (.int (10 : Int32)), .val (.int (3 : Int32))] [(.int (10 : Int32))]))
  refine OGo.by (fun _ k => XS.iloadN X0.here hx rfl (hb hby d25_1) rfl k) ?_
  show OGo p e below _ (s₁.setTop (mkF m 2 #[.val (.int (10 : Int32)), .val (.int (3 : Int32))] [(.int (3 : Int32)), (.int (10 : Int32))]))
  refine OGo.by (fun _ k => XS.icmpYes X0.here hx rfl (pc0 := 2) (pc' := 9) rfl (hb hby d25_2) rfl (tlt (by decide : (3 : Int32) < (10 : Int32))).2.2.1 (by decide) (by decide) k) ?_
  show OGo p e below _ (s₁.setTop (mkF m 9 #[.val (.int (10 : Int32)), .val (.int (3 : Int32))] []))
  refine OGo.by (fun _ k => XS.iloadN X0.here hx rfl (hb hby d25_9) rfl k) ?_
  show OGo p e below _ (s₁.setTop (mkF m 10 #[.val (.int (10 : Int32)), .val (.int (3 : Int32))] [(.int (3 : Int32))]))
  obtain ⟨fs, hr, hrun, hended, hW, hsame⟩ := X0.leave (v := some (.int (3 : Int32))) (fun h => by rw [Bd.returns] at h; cases h)
  refine OGo.ret (retI X0 hx Bd.returns (hb hby d25_10) hr) hrun hended ⟨_, _, rfl, ?_, ⟨_, rfl⟩, hW, hsame.mono (by decide) (by decide)⟩
  show Q_rm_min3 Z  h0 n0 _ s₁.heap _
  rw [e0]
  exact ⟨rfl, N0, rfl⟩
theorem ef_rm_cp3_3 (m : MethodId) (a0 : Addr) (kd : ClassId) (mr : Addr) (c0 : Addr) (c1 : Addr) (c2 : Addr) : entryFrame m #[(.ref a0), (.int (3 : Int32)), (.ref mr)] 4 = mkF m 0 #[.val (.ref a0), .val (.int (3 : Int32)), .val (.ref mr), .unset] [] := by first | (simp [entryFrame, mkF, argsToLocals, Value.category]; done) | rfl
def Q_rm_cp3_3 (Z : State) (a0 : Addr) (kd : ClassId) (mr : Addr) (c0 : Addr) (c1 : Addr) (c2 : Addr) (h0 : Heap) (n0 : Nat) (v : Option Value) (h : Heap) (L : List Loc) : Prop := ∃ b : Addr, ∃ kb : ClassId, v = some (.ref b) ∧ Fr n0 L ∧ Keep h0 h [] ∧ (h0.size ≤ b) ∧ (n0 ≤ b) ∧ (Arv Z h b kb (.object "java/lang/Object") (3 : Int32) [(.ref c0), (.ref c1), (.ref c2)] .null) ∧ (Exa Z h b "[Ljava/lang/Object;") ∧ (Ovr Z kb "java/lang/Object")
set_option maxRecDepth 65536 in
set_option maxHeartbeats 40000000 in
theorem rm_cp3_3 (l : Launch) (Z : State) (av0 : Array Value) (hw : ∀ d ∈ tables_1, d.before av0 Z = true) (ws : List Jvm.Cond) (a0 : Addr) (kd : ClassId) (mr : Addr) (c0 : Addr) (c1 : Addr) (c2 : Addr) (h0 : Heap) (n0 : Nat) (Z0 : n0 ≤ h0.size) (A_d : Arv Z h0 a0 kd (.object "java/lang/Object") (10 : Int32) [(.ref c0), (.ref c1), (.ref c2), .null, .null, .null, .null, .null, .null, .null] .null) (E_d : Exa Z h0 a0 "[Ljava/lang/Object;") (M_0 : Mir Z "[Ljava/lang/Object;" mr) (Ec0 : Exa Z h0 c0 "com/example/kept_inbox/keptinbox/UnreadConversation") (Ec1 : Exa Z h0 c1 "com/example/kept_inbox/keptinbox/UnreadConversation") (Ec2 : Exa Z h0 c2 "com/example/kept_inbox/keptinbox/UnreadConversation") :
    MetFree l (⟨"java/util/Arrays", "copyOf", "([Ljava/lang/Object;ILjava/lang/Class;)[Ljava/lang/Object;"⟩ : MethodName) (head1 (Jvm.Cond.code (⟨"java/util/Arrays", "copyOf", "([Ljava/lang/Object;ILjava/lang/Class;)[Ljava/lang/Object;"⟩ : MethodName) jdk_65_method_120_code 4 (some (.array (.object "java/lang/Object"))) :: ws) ({ frames := 1, cells := 1, slots := 3, locals := 18 } : Room)) (fun a U => a = #[(.ref a0), (.int (3 : Int32)), (.ref mr)] ∧ Z.Warmed39 U.vm ∧ U.heap = h0) (fun _ _ _ _ _ => True) (fun _ U o U' => ∃ v L, o = .returned v ∧ Q_rm_cp3_3 Z a0 kd mr c0 c1 c2 h0 n0 v U'.heap L ∧ FrameEnd U o U' L ({ frames := 1, cells := 1, slots := 3, locals := 18 } : Room).cells ({ frames := 1, cells := 1, slots := 3, locals := 18 } : Room).slots) := by
  refine MetFree.of_bodySF (plainFor_of_name own_pn24) hisR ?_
  intro p e s m args below meth c s₁ Bd hml0 hP hK
  obtain ⟨rfl, hZ, hh⟩ := hP
  have hx := Bd.exec
  have hby := Bd.bytes
  have hml : c.maxLocals = 4 := hml0
  have hown : s.vm.findClass "java/util/Arrays" = some m.cls := findClass_of_methodNamed Bd.named
  have hnm := (name_of_methodNamed Bd.named Bd.method).1
  have X0 : Stand p l e ({ frames := 1, cells := 1, slots := 3, locals := 18 } : Room) s m #[(.ref a0), (.int (3 : Int32)), (.ref mr)] below meth c s₁ [] 0 0 := Stand.of_body Bd
  have e0 : s₁.heap = h0 := by rw [← hh, Bd.state]; rfl
  have N0 := Fr.nil n0
  refine OGo.by (P := fun U' o => ∃ v L, o = .returned v ∧ Q_rm_cp3_3 Z a0 kd mr c0 c1 c2 h0 n0 v U'.heap L ∧ FrameEnd s o U' L ({ frames := 1, cells := 1, slots := 3, locals := 18 } : Room).cells ({ frames := 1, cells := 1, slots := 3, locals := 18 } : Room).slots) (fun T_ k_ => castTop (ef_rm_cp3_3 m a0 kd mr c0 c1 c2) k_) ?_
  show OGo p e below _ (s₁.setTop (mkF m 0 #[.val (.ref a0), .val (.int (3 : Int32)), .val (.ref mr), .unset] []))
  refine OGo.by (fun _ k => XS.aloadN X0.here hx rfl (hb hby d24_0) rfl rfl k) ?_
  show OGo p e below _ (s₁.setTop (mkF m 1 #[.val (.ref a0), .val (.int (3 : Int32)), .val (.ref mr), .unset] [(.ref mr)]))
  obtain ⟨vm1, X1, st1⟩ := X0.ldcMirror hx hown (mvT hZ (hw _ (List.mem_of_getElem? (i := 194) rfl))) (own_mev hZ M_0) (g := (mkF m 1 #[.val (.ref a0), .val (.int (3 : Int32)), .val (.ref mr), .unset] [(.ref mr)])) rfl (hb hby d24_1)
  refine OGo.by st1 ?_
  have e1 : (s₁.setVm vm1).heap = h0 := e0
  show OGo p e below _ ((s₁.setVm vm1).setTop (mkF m 3 #[.val (.ref a0), .val (.int (3 : Int32)), .val (.ref mr), .unset] [(.ref mr), (.ref mr)]))
  refine OGo.by (fun _ k => Jvm.RoadKit.acmp (g := (mkF m 3 #[.val (.ref a0), .val (.int (3 : Int32)), .val (.ref mr), .unset] [(.ref mr), (.ref mr)])) X1 hx rfl rfl rfl (pc0 := 3) (pc' := 6) (same := true) rfl (hb hby d24_3) rfl (decide_eq_true rfl) (by decide) (by decide) k) ?_
  show OGo p e below _ ((s₁.setVm vm1).setTop (mkF m 6 #[.val (.ref a0), .val (.int (3 : Int32)), .val (.ref mr), .unset] []))
  refine OGo.by (fun _ k => XS.iloadN X1.here hx rfl (hb hby d24_6) rfl k) ?_
  show OGo p e below _ ((s₁.setVm vm1).setTop (mkF m 7 #[.val (.ref a0), .val (.int (3 : Int32)), .val (.ref mr), .unset] [(.int (3 : Int32))]))
  obtain ⟨T2, h2, k2, X2, e2, E2, A2, XA2, O2, st2⟩ := newRE X1 hx hZ hown (hw _ (List.mem_of_getElem? (i := 195) rfl)) (hw _ (List.mem_of_getElem? (i := 167) rfl)) e1 (g := (mkF m 7 #[.val (.ref a0), .val (.int (3 : Int32)), .val (.ref mr), .unset] [(.int (3 : Int32))])) rfl (hb hby d24_7) rfl (by decide : ¬ ((3 : Int32) < (0 : Int32))) (cap := 3) (by decide) (by decide) (by decide) (by decide) (ad := "[Ljava/lang/Object;") (by decide)
  obtain ⟨b2, g2⟩ : ∃ z, z = h0.size := ⟨_, rfl⟩
  rw [← g2] at A2 XA2 st2
  have ne_a0_b2 : a0 ≠ b2 := Nat.ne_of_lt (Nat.lt_of_lt_of_le A_d.lt (Nat.le_of_eq g2.symm))
  have ne_c0_b2 : c0 ≠ b2 := Nat.ne_of_lt (Nat.lt_of_lt_of_le Ec0.lt (Nat.le_of_eq g2.symm))
  have ne_c1_b2 : c1 ≠ b2 := Nat.ne_of_lt (Nat.lt_of_lt_of_le Ec1.lt (Nat.le_of_eq g2.symm))
  have ne_c2_b2 : c2 ≠ b2 := Nat.ne_of_lt (Nat.lt_of_lt_of_le Ec2.lt (Nat.le_of_eq g2.symm))
  have g_b2 : n0 ≤ b2 := Nat.le_trans Z0 (Nat.le_of_eq g2.symm)
  have sz_b2 : h0.size ≤ b2 := Nat.le_trans (Nat.le_refl _) (Nat.le_of_eq g2.symm)
  refine OGo.by st2 ?_
  have K2 : Keep h0 h2 [] := ((Keep.refl h0 [])).ext E2
  have V2 : Arv Z h2 b2 k2 (.object "java/lang/Object") (3 : Int32) [.null, .null, .null] .null := (Arv.new A2 (by decide)).pad (pad_rep [] .null 3)
  show OGo p e below _ (T2.setTop (mkF m 10 #[.val (.ref a0), .val (.int (3 : Int32)), .val (.ref mr), .unset] [(.ref b2)]))
  refine OGo.by (fun _ k => XS.goto X2.here hx rfl (pc0 := 10) (pc' := 24) rfl (hb hby d24_10) (by decide) (by decide) k) ?_
  show OGo p e below _ (T2.setTop (mkF m 24 #[.val (.ref a0), .val (.int (3 : Int32)), .val (.ref mr), .unset] [(.ref b2)]))
  refine OGo.by (fun _ k => XS.astoreN X2.here hx rfl (hb hby d24_24) rfl rfl (l' := #[.val (.ref a0), .val (.int (3 : Int32)), .val (.ref mr), .val (.ref b2)]) rfl k) ?_
  show OGo p e below _ (T2.setTop (mkF m 25 #[.val (.ref a0), .val (.int (3 : Int32)), .val (.ref mr), .val (.ref b2)] []))
  refine OGo.by (fun _ k => XS.aloadN X2.here hx rfl (hb hby d24_25) rfl rfl k) ?_
  show OGo p e below _ (T2.setTop (mkF m 26 #[.val (.ref a0), .val (.int (3 : Int32)), .val (.ref mr), .val (.ref b2)] [(.ref a0)]))
  refine OGo.by (fun _ k => XS.iconst X2.here hx rfl (hb hby d24_26) k) ?_
  show OGo p e below _ (T2.setTop (mkF m 27 #[.val (.ref a0), .val (.int (3 : Int32)), .val (.ref mr), .val (.ref b2)] [(.int (0 : Int32)), (.ref a0)]))
  refine OGo.by (fun _ k => XS.aloadN X2.here hx rfl (hb hby d24_27) rfl rfl k) ?_
  show OGo p e below _ (T2.setTop (mkF m 28 #[.val (.ref a0), .val (.int (3 : Int32)), .val (.ref mr), .val (.ref b2)] [(.ref b2), (.int (0 : Int32)), (.ref a0)]))
  refine OGo.by (fun _ k => XS.iconst X2.here hx rfl (hb hby d24_28) k) ?_
  show OGo p e below _ (T2.setTop (mkF m 29 #[.val (.ref a0), .val (.int (3 : Int32)), .val (.ref mr), .val (.ref b2)] [(.int (0 : Int32)), (.ref b2), (.int (0 : Int32)), (.ref a0)]))
  refine OGo.by (fun _ k => XS.aloadN X2.here hx rfl (hb hby d24_29) rfl rfl k) ?_
  show OGo p e below _ (T2.setTop (mkF m 30 #[.val (.ref a0), .val (.int (3 : Int32)), .val (.ref mr), .val (.ref b2)] [(.ref a0), (.int (0 : Int32)), (.ref b2), (.int (0 : Int32)), (.ref a0)]))
  have f3 : Arv Z h2 a0 kd (.object "java/lang/Object") (10 : Int32) [(.ref c0), (.ref c1), (.ref c2), .null, .null, .null, .null, .null, .null, .null] .null := (A_d.ext E2)
  obtain ⟨cl4, Ar4, q4, S4, M4, -, -⟩ := id f3
  refine OGo.by (X2.arraylength hx (by rw [e2]; exact Ar4.1) (State.isArrayOf_alike hZ.alike Ar4.2.1) (g := (mkF m 30 #[.val (.ref a0), .val (.int (3 : Int32)), .val (.ref mr), .val (.ref b2)] [(.ref a0), (.int (0 : Int32)), (.ref b2), (.int (0 : Int32)), (.ref a0)])) rfl rfl (hb hby d24_30)) ?_
  rw [len_of S4 M4]
  show OGo p e below _ (T2.setTop (mkF m 31 #[.val (.ref a0), .val (.int (3 : Int32)), .val (.ref mr), .val (.ref b2)] [(.int (10 : Int32)), (.int (0 : Int32)), (.ref b2), (.int (0 : Int32)), (.ref a0)]))
  refine OGo.by (fun _ k => XS.iloadN X2.here hx rfl (hb hby d24_31) rfl k) ?_
  show OGo p e below _ (T2.setTop (mkF m 32 #[.val (.ref a0), .val (.int (3 : Int32)), .val (.ref mr), .val (.ref b2)] [(.int (3 : Int32)), (.int (10 : Int32)), (.int (0 : Int32)), (.ref b2), (.int (0 : Int32)), (.ref a0)]))
  obtain ⟨_, _, ⟨T5, L5, k5, n5⟩, -, X5, ⟨Lc5, hQ5, l5, y5, z5⟩, st5⟩ := Jvm.LawKit.callS X2 hx (y := (⟨"java/lang/Math", "min", "(II)I"⟩ : MethodName)) hown (mvT hZ (hw _ (List.mem_of_getElem? (i := 196) rfl))) (mvT hZ (hw _ (List.mem_of_getElem? (i := 197) rfl))) (mvT hZ (hw _ (List.mem_of_getElem? (i := 164) rfl))) (mvT hZ (hw _ (List.mem_of_getElem? (i := 198) rfl))) (by decide) (backOf (W := 4) (rm_min3 l Z av0 hw [] h2 n0 (Nat.le_trans Z0 K2.1)) hZ (hw _ (List.mem_of_getElem? (i := 198) rfl)) (hw _ (List.mem_of_getElem? (i := 164) rfl)) (by decide) (by decide)) (g := (mkF m 32 #[.val (.ref a0), .val (.int (3 : Int32)), .val (.ref mr), .val (.ref b2)] [(.int (3 : Int32)), (.int (10 : Int32)), (.int (0 : Int32)), (.ref b2), (.int (0 : Int32)), (.ref a0)])) rfl (by rw [hml]; rfl) (argsL := [(.int (10 : Int32)), (.int (3 : Int32))]) (rest := [(.int (0 : Int32)), (.ref b2), (.int (0 : Int32)), (.ref a0)]) (lenOf own_pd1 rfl) rfl (by show 2 * 0 + _ ≤ _; exact Nat.le_of_eq rfl) (hb hby d24_32) (fun _ _ => ⟨rfl, e2, (by decide : 1 + 0 ≤ _), (by decide : 3 + 0 ≤ _)⟩)
  dsimp only [Pt.U, Pt.locs, Pt.cells, Pt.slots] at X5 l5 y5 z5 st5 hQ5
  subst l5 y5 z5
  obtain ⟨rfl, N5q, e5⟩ := hQ5
  have N5 := Fr.app N0 N5q
  refine OGo.by st5 ?_
  show OGo p e below _ (T5.setTop (mkF m 35 #[.val (.ref a0), .val (.int (3 : Int32)), .val (.ref mr), .val (.ref b2)] [(.int (3 : Int32)), (.int (0 : Int32)), (.ref b2), (.int (0 : Int32)), (.ref a0)]))
  obtain ⟨clb6, Arb6, qb6, -, -, -, -⟩ := id V2
  have f7 : Exa Z h2 c2 "com/example/kept_inbox/keptinbox/UnreadConversation" := (Ec2.ext E2)
  have f8 : Exa Z h2 c1 "com/example/kept_inbox/keptinbox/UnreadConversation" := (Ec1.ext E2)
  have f9 : Exa Z h2 c0 "com/example/kept_inbox/keptinbox/UnreadConversation" := (Ec0.ext E2)
  obtain ⟨T6, h6, L6, X6, e6, N6, Kc6, V6, st6⟩ := cpA X5 hx hZ hown (hw _ (List.mem_of_getElem? (i := 199) rfl)) (hw _ (List.mem_of_getElem? (i := 202) rfl)) (hw _ (List.mem_of_getElem? (i := 200) rfl)) (hw _ (List.mem_of_getElem? (i := 201) rfl)) e5 (sp := (0 : Int32)) (dp := (0 : Int32)) (nn := (3 : Int32)) (us := [(.ref c0), (.ref c1), (.ref c2)]) f3 V2 (Or.inr ⟨rfl, rfl, ⟨(Sto.ofV Arb6 qb6 O2 (Ins.of_exa f9 (hw _ (List.mem_of_getElem? (i := 168) rfl)))), ⟨(Sto.ofV Arb6 qb6 O2 (Ins.of_exa f8 (hw _ (List.mem_of_getElem? (i := 168) rfl)))), ⟨(Sto.ofV Arb6 qb6 O2 (Ins.of_exa f7 (hw _ (List.mem_of_getElem? (i := 168) rfl)))), trivial⟩⟩⟩⟩) (by decide) (by decide) (by decide) (by decide) (by decide) rfl (by decide) N5 g_b2 (g := (mkF m 35 #[.val (.ref a0), .val (.int (3 : Int32)), .val (.ref mr), .val (.ref b2)] [(.int (3 : Int32)), (.int (0 : Int32)), (.ref b2), (.int (0 : Int32)), (.ref a0)])) rfl (by rw [hml]; rfl) rfl (hb hby d24_35) (by decide) (W := 0) (by show 2 * 0 + _ ≤ _; exact Nat.le_of_eq rfl) (by decide)
  refine OGo.by st6 ?_
  have K6 : Keep h0 h6 [] := (K2).trans Kc6 (allS (P := fun x => x ∈ ([] : List Addr) ∨ h0.size ≤ x) (Or.inr sz_b2) (all0 (P := fun x => x ∈ ([] : List Addr) ∨ h0.size ≤ x)))
  show OGo p e below _ (T6.setTop (mkF m 38 #[.val (.ref a0), .val (.int (3 : Int32)), .val (.ref mr), .val (.ref b2)] []))
  refine OGo.by (fun _ k => XS.aloadN X6.here hx rfl (hb hby d24_38) rfl rfl k) ?_
  show OGo p e below _ (T6.setTop (mkF m 39 #[.val (.ref a0), .val (.int (3 : Int32)), .val (.ref mr), .val (.ref b2)] [(.ref b2)]))
  obtain ⟨fs, hr, hrun, hended, hW, hsame⟩ := X6.leave (v := some (.ref b2)) (fun h => by rw [Bd.returns] at h; cases h)
  refine OGo.ret (retOut X6 hx Bd.returns rfl (Or.inr (Or.inr (Or.inr (Or.inr ⟨rfl, rfl, rfl⟩)))) (hb hby d24_39) hr) hrun hended ⟨_, _, rfl, ?_, ⟨_, rfl⟩, hW, hsame.mono (by decide) (by decide)⟩
  show Q_rm_cp3_3 Z a0 kd mr c0 c1 c2 h0 n0 _ T6.heap _
  rw [e6]
  have f10 : Exa Z h6 b2 "[Ljava/lang/Object;" := (XA2.keep Kc6)
  exact ⟨b2, k2, rfl, N6, K6, sz_b2, g_b2, V6, f10, O2⟩
theorem ef_rm_cp2_3 (m : MethodId) (a0 : Addr) (kd : ClassId) (mr : Addr) (c0 : Addr) (c1 : Addr) (c2 : Addr) : entryFrame m #[(.ref a0), (.int (3 : Int32))] 2 = mkF m 0 #[.val (.ref a0), .val (.int (3 : Int32))] [] := by first | (simp [entryFrame, mkF, argsToLocals, Value.category]; done) | rfl
def Q_rm_cp2_3 (Z : State) (a0 : Addr) (kd : ClassId) (mr : Addr) (c0 : Addr) (c1 : Addr) (c2 : Addr) (h0 : Heap) (n0 : Nat) (v : Option Value) (h : Heap) (L : List Loc) : Prop := ∃ b : Addr, ∃ kb : ClassId, v = some (.ref b) ∧ Fr n0 L ∧ Keep h0 h [] ∧ (h0.size ≤ b) ∧ (n0 ≤ b) ∧ (Arv Z h b kb (.object "java/lang/Object") (3 : Int32) [(.ref c0), (.ref c1), (.ref c2)] .null) ∧ (Exa Z h b "[Ljava/lang/Object;") ∧ (Ovr Z kb "java/lang/Object")
set_option maxRecDepth 65536 in
set_option maxHeartbeats 40000000 in
theorem rm_cp2_3 (l : Launch) (Z : State) (av0 : Array Value) (hw : ∀ d ∈ tables_1, d.before av0 Z = true) (ws : List Jvm.Cond) (a0 : Addr) (kd : ClassId) (mr : Addr) (c0 : Addr) (c1 : Addr) (c2 : Addr) (h0 : Heap) (n0 : Nat) (Z0 : n0 ≤ h0.size) (A_d : Arv Z h0 a0 kd (.object "java/lang/Object") (10 : Int32) [(.ref c0), (.ref c1), (.ref c2), .null, .null, .null, .null, .null, .null, .null] .null) (E_d : Exa Z h0 a0 "[Ljava/lang/Object;") (M_0 : Mir Z "[Ljava/lang/Object;" mr) (Ec0 : Exa Z h0 c0 "com/example/kept_inbox/keptinbox/UnreadConversation") (Ec1 : Exa Z h0 c1 "com/example/kept_inbox/keptinbox/UnreadConversation") (Ec2 : Exa Z h0 c2 "com/example/kept_inbox/keptinbox/UnreadConversation") :
    MetFree l (⟨"java/util/Arrays", "copyOf", "([Ljava/lang/Object;I)[Ljava/lang/Object;"⟩ : MethodName) (head1 (Jvm.Cond.code (⟨"java/util/Arrays", "copyOf", "([Ljava/lang/Object;I)[Ljava/lang/Object;"⟩ : MethodName) jdk_65_method_119_code 2 (some (.array (.object "java/lang/Object"))) :: ws) ({ frames := 2, cells := 1, slots := 3, locals := 33 } : Room)) (fun a U => a = #[(.ref a0), (.int (3 : Int32))] ∧ Z.Warmed39 U.vm ∧ U.heap = h0) (fun _ _ _ _ _ => True) (fun _ U o U' => ∃ v L, o = .returned v ∧ Q_rm_cp2_3 Z a0 kd mr c0 c1 c2 h0 n0 v U'.heap L ∧ FrameEnd U o U' L ({ frames := 2, cells := 1, slots := 3, locals := 33 } : Room).cells ({ frames := 2, cells := 1, slots := 3, locals := 33 } : Room).slots) := by
  refine MetFree.of_bodySF (plainFor_of_name own_pn23) hisR ?_
  intro p e s m args below meth c s₁ Bd hml0 hP hK
  obtain ⟨rfl, hZ, hh⟩ := hP
  have hx := Bd.exec
  have hby := Bd.bytes
  have hml : c.maxLocals = 2 := hml0
  have hown : s.vm.findClass "java/util/Arrays" = some m.cls := findClass_of_methodNamed Bd.named
  have hnm := (name_of_methodNamed Bd.named Bd.method).1
  have X0 : Stand p l e ({ frames := 2, cells := 1, slots := 3, locals := 33 } : Room) s m #[(.ref a0), (.int (3 : Int32))] below meth c s₁ [] 0 0 := Stand.of_body Bd
  have e0 : s₁.heap = h0 := by rw [← hh, Bd.state]; rfl
  have N0 := Fr.nil n0
  refine OGo.by (P := fun U' o => ∃ v L, o = .returned v ∧ Q_rm_cp2_3 Z a0 kd mr c0 c1 c2 h0 n0 v U'.heap L ∧ FrameEnd s o U' L ({ frames := 2, cells := 1, slots := 3, locals := 33 } : Room).cells ({ frames := 2, cells := 1, slots := 3, locals := 33 } : Room).slots) (fun T_ k_ => castTop (ef_rm_cp2_3 m a0 kd mr c0 c1 c2) k_) ?_
  show OGo p e below _ (s₁.setTop (mkF m 0 #[.val (.ref a0), .val (.int (3 : Int32))] []))
  refine OGo.by (fun _ k => XS.aloadN X0.here hx rfl (hb hby d23_0) rfl rfl k) ?_
  show OGo p e below _ (s₁.setTop (mkF m 1 #[.val (.ref a0), .val (.int (3 : Int32))] [(.ref a0)]))
  refine OGo.by (fun _ k => XS.iloadN X0.here hx rfl (hb hby d23_1) rfl k) ?_
  show OGo p e below _ (s₁.setTop (mkF m 2 #[.val (.ref a0), .val (.int (3 : Int32))] [(.int (3 : Int32)), (.ref a0)]))
  refine OGo.by (fun _ k => XS.aloadN X0.here hx rfl (hb hby d23_2) rfl rfl k) ?_
  show OGo p e below _ (s₁.setTop (mkF m 3 #[.val (.ref a0), .val (.int (3 : Int32))] [(.ref a0), (.int (3 : Int32)), (.ref a0)]))
  obtain ⟨T1, X1, e1, st1⟩ := gcls X0 hx hZ hown (hw _ (List.mem_of_getElem? (i := 185) rfl)) (hw _ (List.mem_of_getElem? (i := 186) rfl)) (hw _ (List.mem_of_getElem? (i := 50) rfl)) (hw _ (List.mem_of_getElem? (i := 188) rfl)) (hw _ (List.mem_of_getElem? (i := 187) rfl)) (hw _ (List.mem_of_getElem? (i := 189) rfl)) e0 E_d M_0 (g := (mkF m 3 #[.val (.ref a0), .val (.int (3 : Int32))] [(.ref a0), (.int (3 : Int32)), (.ref a0)])) rfl (by rw [hml]; rfl) rfl (hb hby d23_3) (by decide) (W := 2) (by show 2 * 0 + _ ≤ _; exact Nat.le_of_eq rfl) (by decide)
  refine OGo.by st1 ?_
  show OGo p e below _ (T1.setTop (mkF m 6 #[.val (.ref a0), .val (.int (3 : Int32))] [(.ref mr), (.int (3 : Int32)), (.ref a0)]))
  obtain ⟨_, _, ⟨T2, L2, k2, n2⟩, -, X2, ⟨Lc2, hQ2, l2, y2, z2⟩, st2⟩ := Jvm.LawKit.callS X1 hx (y := (⟨"java/util/Arrays", "copyOf", "([Ljava/lang/Object;ILjava/lang/Class;)[Ljava/lang/Object;"⟩ : MethodName)) hown (mvT hZ (hw _ (List.mem_of_getElem? (i := 191) rfl))) (mvT hZ (hw _ (List.mem_of_getElem? (i := 192) rfl))) (mvT hZ (hw _ (List.mem_of_getElem? (i := 183) rfl))) (mvT hZ (hw _ (List.mem_of_getElem? (i := 193) rfl))) (by decide) (backOf (W := 0) (rm_cp3_3 l Z av0 hw [] a0 kd mr c0 c1 c2 h0 n0 Z0 A_d E_d M_0 Ec0 Ec1 Ec2) hZ (hw _ (List.mem_of_getElem? (i := 193) rfl)) (hw _ (List.mem_of_getElem? (i := 183) rfl)) (by decide) (by decide)) (g := (mkF m 6 #[.val (.ref a0), .val (.int (3 : Int32))] [(.ref mr), (.int (3 : Int32)), (.ref a0)])) rfl (by rw [hml]; rfl) (argsL := [(.ref a0), (.int (3 : Int32)), (.ref mr)]) (rest := []) (lenOf own_pd9 rfl) rfl (by show 2 * 0 + _ ≤ _; exact Nat.le_of_eq rfl) (hb hby d23_6) (fun _ _ => ⟨rfl, e1, (by decide : 0 + 1 ≤ _), (by decide : 0 + 3 ≤ _)⟩)
  dsimp only [Pt.U, Pt.locs, Pt.cells, Pt.slots] at X2 l2 y2 z2 st2 hQ2
  subst l2 y2 z2
  obtain ⟨b_2, kb_2, rfl, N2q, Kc2, G2_0, G2_1, G2_2, G2_3, G2_4⟩ := hQ2
  have N2 := Fr.app N0 N2q
  have ne_a0_b_2 : a0 ≠ b_2 := Nat.ne_of_lt (Nat.lt_of_lt_of_le A_d.lt G2_0)
  have ne_c0_b_2 : c0 ≠ b_2 := Nat.ne_of_lt (Nat.lt_of_lt_of_le Ec0.lt G2_0)
  have ne_c1_b_2 : c1 ≠ b_2 := Nat.ne_of_lt (Nat.lt_of_lt_of_le Ec1.lt G2_0)
  have ne_c2_b_2 : c2 ≠ b_2 := Nat.ne_of_lt (Nat.lt_of_lt_of_le Ec2.lt G2_0)
  have g_b_2 : n0 ≤ b_2 := Nat.le_trans Z0 G2_0
  have sz_b_2 : h0.size ≤ b_2 := Nat.le_trans (Nat.le_refl _) G2_0
  have K2 : Keep h0 T2.heap [] := ((Keep.refl h0 [])).trans Kc2 (all0 (P := fun x => x ∈ ([] : List Addr) ∨ h0.size ≤ x))
  refine OGo.by st2 ?_
  show OGo p e below _ (T2.setTop (mkF m 9 #[.val (.ref a0), .val (.int (3 : Int32))] [(.ref b_2)]))
  obtain ⟨fs, hr, hrun, hended, hW, hsame⟩ := X2.leave (v := some (.ref b_2)) (fun h => by rw [Bd.returns] at h; cases h)
  refine OGo.ret (retOut X2 hx Bd.returns rfl (Or.inr (Or.inr (Or.inr (Or.inr ⟨rfl, rfl, rfl⟩)))) (hb hby d23_9) hr) hrun hended ⟨_, _, rfl, ?_, ⟨_, rfl⟩, hW, hsame.mono (by decide) (by decide)⟩
  show Q_rm_cp2_3 Z a0 kd mr c0 c1 c2 h0 n0 _ T2.heap _
  exact ⟨b_2, kb_2, rfl, N2, K2, sz_b_2, g_b_2, G2_2, G2_3, G2_4⟩
theorem ef_rm_toa3 (m : MethodId) (a0 : Addr) : entryFrame m #[(.ref a0)] 1 = mkF m 0 #[.val (.ref a0)] [] := by first | (simp [entryFrame, mkF, argsToLocals, Value.category]; done) | rfl
def Q_rm_toa3 (Z : State) (a0 : Addr) (d : Addr) (kd : ClassId) (mr : Addr) (c0 : Addr) (c1 : Addr) (c2 : Addr) (h0 : Heap) (n0 : Nat) (v : Option Value) (h : Heap) (L : List Loc) : Prop := ∃ b : Addr, ∃ kb : ClassId, v = some (.ref b) ∧ Fr n0 L ∧ Keep h0 h [] ∧ (h0.size ≤ b) ∧ (n0 ≤ b) ∧ (Arv Z h b kb (.object "java/lang/Object") (3 : Int32) [(.ref c0), (.ref c1), (.ref c2)] .null) ∧ (Exa Z h b "[Ljava/lang/Object;") ∧ (Ovr Z kb "java/lang/Object")
set_option maxRecDepth 65536 in
set_option maxHeartbeats 40000000 in
theorem rm_toa3 (l : Launch) (Z : State) (av0 : Array Value) (hw : ∀ d ∈ tables_1, d.before av0 Z = true) (ws : List Jvm.Cond) (a0 : Addr) (d : Addr) (kd : ClassId) (mr : Addr) (c0 : Addr) (c1 : Addr) (c2 : Addr) (h0 : Heap) (n0 : Nat) (Z0 : n0 ≤ h0.size) (E0 : Exa Z h0 a0 "java/util/ArrayList") (F0 : Fld Z h0 a0 "java/util/ArrayList" "size" "I" (.int (3 : Int32))) (F1 : Fld Z h0 a0 "java/util/ArrayList" "elementData" "[Ljava/lang/Object;" (.ref d)) (A_d : Arv Z h0 d kd (.object "java/lang/Object") (10 : Int32) [(.ref c0), (.ref c1), (.ref c2), .null, .null, .null, .null, .null, .null, .null] .null) (E_d : Exa Z h0 d "[Ljava/lang/Object;") (M_0 : Mir Z "[Ljava/lang/Object;" mr) (Ec0 : Exa Z h0 c0 "com/example/kept_inbox/keptinbox/UnreadConversation") (Ec1 : Exa Z h0 c1 "com/example/kept_inbox/keptinbox/UnreadConversation") (Ec2 : Exa Z h0 c2 "com/example/kept_inbox/keptinbox/UnreadConversation") :
    MetFree l (⟨"java/util/ArrayList", "toArray", "()[Ljava/lang/Object;"⟩ : MethodName) (head1 (Jvm.Cond.code (⟨"java/util/ArrayList", "toArray", "()[Ljava/lang/Object;"⟩ : MethodName) jdk_38_method_16_code 1 (some (.array (.object "java/lang/Object"))) :: ws) ({ frames := 3, cells := 1, slots := 3, locals := 46 } : Room)) (fun a U => a = #[(.ref a0)] ∧ Z.Warmed39 U.vm ∧ U.heap = h0) (fun _ _ _ _ _ => True) (fun _ U o U' => ∃ v L, o = .returned v ∧ Q_rm_toa3 Z a0 d kd mr c0 c1 c2 h0 n0 v U'.heap L ∧ FrameEnd U o U' L ({ frames := 3, cells := 1, slots := 3, locals := 46 } : Room).cells ({ frames := 3, cells := 1, slots := 3, locals := 46 } : Room).slots) := by
  refine MetFree.of_bodySF (plainFor_of_name own_pn22) hisR ?_
  intro p e s m args below meth c s₁ Bd hml0 hP hK
  obtain ⟨rfl, hZ, hh⟩ := hP
  have hx := Bd.exec
  have hby := Bd.bytes
  have hml : c.maxLocals = 1 := hml0
  have hown : s.vm.findClass "java/util/ArrayList" = some m.cls := findClass_of_methodNamed Bd.named
  have hnm := (name_of_methodNamed Bd.named Bd.method).1
  have X0 : Stand p l e ({ frames := 3, cells := 1, slots := 3, locals := 46 } : Room) s m #[(.ref a0)] below meth c s₁ [] 0 0 := Stand.of_body Bd
  have e0 : s₁.heap = h0 := by rw [← hh, Bd.state]; rfl
  have N0 := Fr.nil n0
  refine OGo.by (P := fun U' o => ∃ v L, o = .returned v ∧ Q_rm_toa3 Z a0 d kd mr c0 c1 c2 h0 n0 v U'.heap L ∧ FrameEnd s o U' L ({ frames := 3, cells := 1, slots := 3, locals := 46 } : Room).cells ({ frames := 3, cells := 1, slots := 3, locals := 46 } : Room).slots) (fun T_ k_ => castTop (ef_rm_toa3 m a0) k_) ?_
  show OGo p e below _ (s₁.setTop (mkF m 0 #[.val (.ref a0)] []))
  refine OGo.by (fun _ k => XS.aloadN X0.here hx rfl (hb hby d22_0) rfl rfl k) ?_
  show OGo p e below _ (s₁.setTop (mkF m 1 #[.val (.ref a0)] [(.ref a0)]))
  obtain ⟨T1, X1, e1, st1⟩ := getF X0 hx hZ hown (host := "") (Or.inl (hw _ (List.mem_of_getElem? (i := 24) rfl))) Via.refl e0 F1 (g := (mkF m 1 #[.val (.ref a0)] [(.ref a0)])) rfl rfl (hb hby d22_1)
  refine OGo.by st1 ?_
  show OGo p e below _ (T1.setTop (mkF m 4 #[.val (.ref a0)] [(.ref d)]))
  refine OGo.by (fun _ k => XS.aloadN X1.here hx rfl (hb hby d22_4) rfl rfl k) ?_
  show OGo p e below _ (T1.setTop (mkF m 5 #[.val (.ref a0)] [(.ref a0), (.ref d)]))
  obtain ⟨T2, X2, e2, st2⟩ := getF X1 hx hZ hown (host := "") (Or.inl (hw _ (List.mem_of_getElem? (i := 61) rfl))) Via.refl e1 F0 (g := (mkF m 5 #[.val (.ref a0)] [(.ref a0), (.ref d)])) rfl rfl (hb hby d22_5)
  refine OGo.by st2 ?_
  show OGo p e below _ (T2.setTop (mkF m 8 #[.val (.ref a0)] [(.int (3 : Int32)), (.ref d)]))
  obtain ⟨_, _, ⟨T3, L3, k3, n3⟩, -, X3, ⟨Lc3, hQ3, l3, y3, z3⟩, st3⟩ := Jvm.LawKit.callS X2 hx (y := (⟨"java/util/Arrays", "copyOf", "([Ljava/lang/Object;I)[Ljava/lang/Object;"⟩ : MethodName)) hown (mvT hZ (hw _ (List.mem_of_getElem? (i := 181) rfl))) (mvT hZ (hw _ (List.mem_of_getElem? (i := 182) rfl))) (mvT hZ (hw _ (List.mem_of_getElem? (i := 183) rfl))) (mvT hZ (hw _ (List.mem_of_getElem? (i := 184) rfl))) (by decide) (backOf (W := 0) (rm_cp2_3 l Z av0 hw [] d kd mr c0 c1 c2 h0 n0 Z0 A_d E_d M_0 Ec0 Ec1 Ec2) hZ (hw _ (List.mem_of_getElem? (i := 184) rfl)) (hw _ (List.mem_of_getElem? (i := 183) rfl)) (by decide) (by decide)) (g := (mkF m 8 #[.val (.ref a0)] [(.int (3 : Int32)), (.ref d)])) rfl (by rw [hml]; rfl) (argsL := [(.ref d), (.int (3 : Int32))]) (rest := []) (lenOf own_pd10 rfl) rfl (by show 2 * 0 + _ ≤ _; exact Nat.le_of_eq rfl) (hb hby d22_8) (fun _ _ => ⟨rfl, e2, (by decide : 0 + 1 ≤ _), (by decide : 0 + 3 ≤ _)⟩)
  dsimp only [Pt.U, Pt.locs, Pt.cells, Pt.slots] at X3 l3 y3 z3 st3 hQ3
  subst l3 y3 z3
  obtain ⟨b_3, kb_3, rfl, N3q, Kc3, G3_0, G3_1, G3_2, G3_3, G3_4⟩ := hQ3
  have N3 := Fr.app N0 N3q
  have ne_a0_b_3 : a0 ≠ b_3 := Nat.ne_of_lt (Nat.lt_of_lt_of_le E0.lt G3_0)
  have ne_d_b_3 : d ≠ b_3 := Nat.ne_of_lt (Nat.lt_of_lt_of_le A_d.lt G3_0)
  have ne_c0_b_3 : c0 ≠ b_3 := Nat.ne_of_lt (Nat.lt_of_lt_of_le Ec0.lt G3_0)
  have ne_c1_b_3 : c1 ≠ b_3 := Nat.ne_of_lt (Nat.lt_of_lt_of_le Ec1.lt G3_0)
  have ne_c2_b_3 : c2 ≠ b_3 := Nat.ne_of_lt (Nat.lt_of_lt_of_le Ec2.lt G3_0)
  have g_b_3 : n0 ≤ b_3 := Nat.le_trans Z0 G3_0
  have sz_b_3 : h0.size ≤ b_3 := Nat.le_trans (Nat.le_refl _) G3_0
  have K3 : Keep h0 T3.heap [] := ((Keep.refl h0 [])).trans Kc3 (all0 (P := fun x => x ∈ ([] : List Addr) ∨ h0.size ≤ x))
  refine OGo.by st3 ?_
  show OGo p e below _ (T3.setTop (mkF m 11 #[.val (.ref a0)] [(.ref b_3)]))
  obtain ⟨fs, hr, hrun, hended, hW, hsame⟩ := X3.leave (v := some (.ref b_3)) (fun h => by rw [Bd.returns] at h; cases h)
  refine OGo.ret (retOut X3 hx Bd.returns rfl (Or.inr (Or.inr (Or.inr (Or.inr ⟨rfl, rfl, rfl⟩)))) (hb hby d22_11) hr) hrun hended ⟨_, _, rfl, ?_, ⟨_, rfl⟩, hW, hsame.mono (by decide) (by decide)⟩
  show Q_rm_toa3 Z a0 d kd mr c0 c1 c2 h0 n0 _ T3.heap _
  exact ⟨b_3, kb_3, rfl, N3, K3, sz_b_3, g_b_3, G3_2, G3_3, G3_4⟩
theorem d27_0 : decode jdk_56_method_4_code 0 = .ok (.aload_n 0, 1) := by decide +kernel
theorem d27_1 : decode jdk_56_method_4_code 1 = .ok (.arraylength, 1) := by decide +kernel
theorem d27_2 : decode jdk_56_method_4_code 2 = .ok (.anewarray 2, 3) := by decide +kernel
theorem d27_5 : decode jdk_56_method_4_code 5 = .ok (.astore_n 1, 1) := by decide +kernel
theorem d27_6 : decode jdk_56_method_4_code 6 = .ok (.iconst 0, 1) := by decide +kernel
theorem d27_7 : decode jdk_56_method_4_code 7 = .ok (.istore_n 2, 1) := by decide +kernel
theorem d27_8 : decode jdk_56_method_4_code 8 = .ok (.iload_n 2, 1) := by decide +kernel
theorem d27_9 : decode jdk_56_method_4_code 9 = .ok (.aload_n 0, 1) := by decide +kernel
theorem d27_10 : decode jdk_56_method_4_code 10 = .ok (.arraylength, 1) := by decide +kernel
theorem d27_11 : decode jdk_56_method_4_code 11 = .ok (.if_icmp .ge 18, 3) := by decide +kernel
theorem d27_14 : decode jdk_56_method_4_code 14 = .ok (.aload_n 1, 1) := by decide +kernel
theorem d27_15 : decode jdk_56_method_4_code 15 = .ok (.iload_n 2, 1) := by decide +kernel
theorem d27_16 : decode jdk_56_method_4_code 16 = .ok (.aload_n 0, 1) := by decide +kernel
theorem d27_17 : decode jdk_56_method_4_code 17 = .ok (.iload_n 2, 1) := by decide +kernel
theorem d27_18 : decode jdk_56_method_4_code 18 = .ok (.aaload, 1) := by decide +kernel
theorem d27_19 : decode jdk_56_method_4_code 19 = .ok (.invokestatic 37, 3) := by decide +kernel
theorem d27_22 : decode jdk_56_method_4_code 22 = .ok (.aastore, 1) := by decide +kernel
theorem d27_23 : decode jdk_56_method_4_code 23 = .ok (.iinc 2 1, 3) := by decide +kernel
theorem d27_26 : decode jdk_56_method_4_code 26 = .ok (.goto (-18), 3) := by decide +kernel
theorem d27_29 : decode jdk_56_method_4_code 29 = .ok (.new 12, 3) := by decide +kernel
theorem d27_32 : decode jdk_56_method_4_code 32 = .ok (.dup, 1) := by decide +kernel
theorem d27_33 : decode jdk_56_method_4_code 33 = .ok (.aload_n 1, 1) := by decide +kernel
theorem d27_34 : decode jdk_56_method_4_code 34 = .ok (.iconst 0, 1) := by decide +kernel
theorem d27_35 : decode jdk_56_method_4_code 35 = .ok (.invokespecial 43, 3) := by decide +kernel
theorem own_pd14 : parseMethodDescriptor "([Ljava/lang/Object;Z)V" = some ⟨[(.array (.object "java/lang/Object")), .boolean], none⟩ := by decide +kernel
theorem d27_38 : decode jdk_56_method_4_code 38 = .ok (.areturn, 1) := by decide +kernel
theorem own_pn27 : plainName "java/util/ImmutableCollections" = true := by first | (simp [plainName, overriddenIn]; done) | decide +kernel
theorem ef_rm_lfa (m : MethodId) (a0 : Addr) : entryFrame m #[(.ref a0)] 3 = mkF m 0 #[.val (.ref a0), .unset, .unset] [] := by first | (simp [entryFrame, mkF, argsToLocals, Value.category]; done) | rfl
def Q_rm_lfa (Z : State) (a0 : Addr) (ka : ClassId) (c0 : Addr) (c1 : Addr) (c2 : Addr) (h0 : Heap) (n0 : Nat) (v : Option Value) (h : Heap) (L : List Loc) : Prop := ∃ b : Addr, ∃ t : Addr, ∃ kt : ClassId, v = some (.ref b) ∧ Fr n0 L ∧ Keep h0 h [] ∧ (h0.size ≤ b) ∧ (n0 ≤ b) ∧ (h0.size ≤ t) ∧ (n0 ≤ t) ∧ (t ≠ b) ∧ (Exa Z h b "java/util/ImmutableCollections$ListN") ∧ (Fld Z h b "java/util/ImmutableCollections$ListN" "elements" "[Ljava/lang/Object;" (.ref t)) ∧ (Arv Z h t kt (.object "java/lang/Object") (3 : Int32) [(.ref c0), (.ref c1), (.ref c2)] .null)
set_option maxRecDepth 65536 in
set_option maxHeartbeats 40000000 in
theorem rm_lfa (l : Launch) (Z : State) (av0 : Array Value) (hw : ∀ d ∈ tables_1, d.before av0 Z = true) (ws : List Jvm.Cond) (a0 : Addr) (ka : ClassId) (c0 : Addr) (c1 : Addr) (c2 : Addr) (h0 : Heap) (n0 : Nat) (Z0 : n0 ≤ h0.size) (A_a : Arv Z h0 a0 ka (.object "java/lang/Object") (3 : Int32) [(.ref c0), (.ref c1), (.ref c2)] .null) (Ec0 : Exa Z h0 c0 "com/example/kept_inbox/keptinbox/UnreadConversation") (Ec1 : Exa Z h0 c1 "com/example/kept_inbox/keptinbox/UnreadConversation") (Ec2 : Exa Z h0 c2 "com/example/kept_inbox/keptinbox/UnreadConversation") :
    MetFree l (⟨"java/util/ImmutableCollections", "listFromArray", "([Ljava/lang/Object;)Ljava/util/List;"⟩ : MethodName) (head1 (Jvm.Cond.code (⟨"java/util/ImmutableCollections", "listFromArray", "([Ljava/lang/Object;)Ljava/util/List;"⟩ : MethodName) jdk_56_method_4_code 3 (some (.object "java/util/List")) :: ws) ({ frames := 5, cells := 2, slots := 5, locals := 63 } : Room)) (fun a U => a = #[(.ref a0)] ∧ Z.Warmed39 U.vm ∧ U.heap = h0) (fun _ _ _ _ _ => True) (fun _ U o U' => ∃ v L, o = .returned v ∧ Q_rm_lfa Z a0 ka c0 c1 c2 h0 n0 v U'.heap L ∧ FrameEnd U o U' L ({ frames := 5, cells := 2, slots := 5, locals := 63 } : Room).cells ({ frames := 5, cells := 2, slots := 5, locals := 63 } : Room).slots) := by
  refine MetFree.of_bodySF (plainFor_of_name own_pn27) hisR ?_
  intro p e s m args below meth c s₁ Bd hml0 hP hK
  obtain ⟨rfl, hZ, hh⟩ := hP
  have hx := Bd.exec
  have hby := Bd.bytes
  have hml : c.maxLocals = 3 := hml0
  have hown : s.vm.findClass "java/util/ImmutableCollections" = some m.cls := findClass_of_methodNamed Bd.named
  have hnm := (name_of_methodNamed Bd.named Bd.method).1
  have X0 : Stand p l e ({ frames := 5, cells := 2, slots := 5, locals := 63 } : Room) s m #[(.ref a0)] below meth c s₁ [] 0 0 := Stand.of_body Bd
  have e0 : s₁.heap = h0 := by rw [← hh, Bd.state]; rfl
  have N0 := Fr.nil n0
  refine OGo.by (P := fun U' o => ∃ v L, o = .returned v ∧ Q_rm_lfa Z a0 ka c0 c1 c2 h0 n0 v U'.heap L ∧ FrameEnd s o U' L ({ frames := 5, cells := 2, slots := 5, locals := 63 } : Room).cells ({ frames := 5, cells := 2, slots := 5, locals := 63 } : Room).slots) (fun T_ k_ => castTop (ef_rm_lfa m a0) k_) ?_
  show OGo p e below _ (s₁.setTop (mkF m 0 #[.val (.ref a0), .unset, .unset] []))
  refine OGo.by (fun _ k => XS.aloadN X0.here hx rfl (hb hby d27_0) rfl rfl k) ?_
  show OGo p e below _ (s₁.setTop (mkF m 1 #[.val (.ref a0), .unset, .unset] [(.ref a0)]))
  obtain ⟨cl1, Ar1, q1, S1, M1, -, -⟩ := id A_a
  refine OGo.by (X0.arraylength hx (by rw [e0]; exact Ar1.1) (State.isArrayOf_alike hZ.alike Ar1.2.1) (g := (mkF m 1 #[.val (.ref a0), .unset, .unset] [(.ref a0)])) rfl rfl (hb hby d27_1)) ?_
  rw [len_of S1 M1]
  show OGo p e below _ (s₁.setTop (mkF m 2 #[.val (.ref a0), .unset, .unset] [(.int (3 : Int32))]))
  obtain ⟨T2, h2, k2, X2, e2, E2, A2, XA2, O2, st2⟩ := newRE X0 hx hZ hown (hw _ (List.mem_of_getElem? (i := 209) rfl)) (hw _ (List.mem_of_getElem? (i := 167) rfl)) e0 (g := (mkF m 2 #[.val (.ref a0), .unset, .unset] [(.int (3 : Int32))])) rfl (hb hby d27_2) rfl (by decide : ¬ ((3 : Int32) < (0 : Int32))) (cap := 3) (by decide) (by decide) (by decide) (by decide) (ad := "[Ljava/lang/Object;") (by decide)
  obtain ⟨b2, g2⟩ : ∃ z, z = h0.size := ⟨_, rfl⟩
  rw [← g2] at A2 XA2 st2
  have ne_a0_b2 : a0 ≠ b2 := Nat.ne_of_lt (Nat.lt_of_lt_of_le A_a.lt (Nat.le_of_eq g2.symm))
  have ne_c0_b2 : c0 ≠ b2 := Nat.ne_of_lt (Nat.lt_of_lt_of_le Ec0.lt (Nat.le_of_eq g2.symm))
  have ne_c1_b2 : c1 ≠ b2 := Nat.ne_of_lt (Nat.lt_of_lt_of_le Ec1.lt (Nat.le_of_eq g2.symm))
  have ne_c2_b2 : c2 ≠ b2 := Nat.ne_of_lt (Nat.lt_of_lt_of_le Ec2.lt (Nat.le_of_eq g2.symm))
  have g_b2 : n0 ≤ b2 := Nat.le_trans Z0 (Nat.le_of_eq g2.symm)
  have sz_b2 : h0.size ≤ b2 := Nat.le_trans (Nat.le_refl _) (Nat.le_of_eq g2.symm)
  refine OGo.by st2 ?_
  have K2 : Keep h0 h2 [] := ((Keep.refl h0 [])).ext E2
  have V2 : Arv Z h2 b2 k2 (.object "java/lang/Object") (3 : Int32) [.null, .null, .null] .null := (Arv.new A2 (by decide)).pad (pad_rep [] .null 3)
  show OGo p e below _ (T2.setTop (mkF m 5 #[.val (.ref a0), .unset, .unset] [(.ref b2)]))
  refine OGo.by (fun _ k => XS.astoreN X2.here hx rfl (hb hby d27_5) rfl rfl (l' := #[.val (.ref a0), .val (.ref b2), .unset]) rfl k) ?_
  show OGo p e below _ (T2.setTop (mkF m 6 #[.val (.ref a0), .val (.ref b2), .unset] []))
  refine OGo.by (fun _ k => XS.iconst X2.here hx rfl (hb hby d27_6) k) ?_
  show OGo p e below _ (T2.setTop (mkF m 7 #[.val (.ref a0), .val (.ref b2), .unset] [(.int (0 : Int32))]))
  refine OGo.by (fun _ k => XS.istoreN X2.here hx rfl (hb hby d27_7) rfl (l' := #[.val (.ref a0), .val (.ref b2), .val (.int (0 : Int32))]) rfl k) ?_
  show OGo p e below _ (T2.setTop (mkF m 8 #[.val (.ref a0), .val (.ref b2), .val (.int (0 : Int32))] []))
  refine OGo.by (fun _ k => XS.iloadN X2.here hx rfl (hb hby d27_8) rfl k) ?_
  show OGo p e below _ (T2.setTop (mkF m 9 #[.val (.ref a0), .val (.ref b2), .val (.int (0 : Int32))] [(.int (0 : Int32))]))
  refine OGo.by (fun _ k => XS.aloadN X2.here hx rfl (hb hby d27_9) rfl rfl k) ?_
  show OGo p e below _ (T2.setTop (mkF m 10 #[.val (.ref a0), .val (.ref b2), .val (.int (0 : Int32))] [(.ref a0), (.int (0 : Int32))]))
  have f3 : Arv Z h2 a0 ka (.object "java/lang/Object") (3 : Int32) [(.ref c0), (.ref c1), (.ref c2)] .null := (A_a.ext E2)
  obtain ⟨cl4, Ar4, q4, S4, M4, -, -⟩ := id f3
  refine OGo.by (X2.arraylength hx (by rw [e2]; exact Ar4.1) (State.isArrayOf_alike hZ.alike Ar4.2.1) (g := (mkF m 10 #[.val (.ref a0), .val (.ref b2), .val (.int (0 : Int32))] [(.ref a0), (.int (0 : Int32))])) rfl rfl (hb hby d27_10)) ?_
  rw [len_of S4 M4]
  show OGo p e below _ (T2.setTop (mkF m 11 #[.val (.ref a0), .val (.ref b2), .val (.int (0 : Int32))] [(.int (3 : Int32)), (.int (0 : Int32))]))
  refine OGo.by (fun _ k => XS.icmpNo X2.here hx rfl (hb hby d27_11) rfl (tlt (by decide : (0 : Int32) < (3 : Int32))).2.1 k) ?_
  show OGo p e below _ (T2.setTop (mkF m 14 #[.val (.ref a0), .val (.ref b2), .val (.int (0 : Int32))] []))
  refine OGo.by (fun _ k => XS.aloadN X2.here hx rfl (hb hby d27_14) rfl rfl k) ?_
  show OGo p e below _ (T2.setTop (mkF m 15 #[.val (.ref a0), .val (.ref b2), .val (.int (0 : Int32))] [(.ref b2)]))
  refine OGo.by (fun _ k => XS.iloadN X2.here hx rfl (hb hby d27_15) rfl k) ?_
  show OGo p e below _ (T2.setTop (mkF m 16 #[.val (.ref a0), .val (.ref b2), .val (.int (0 : Int32))] [(.int (0 : Int32)), (.ref b2)]))
  refine OGo.by (fun _ k => XS.aloadN X2.here hx rfl (hb hby d27_16) rfl rfl k) ?_
  show OGo p e below _ (T2.setTop (mkF m 17 #[.val (.ref a0), .val (.ref b2), .val (.int (0 : Int32))] [(.ref a0), (.int (0 : Int32)), (.ref b2)]))
  refine OGo.by (fun _ k => XS.iloadN X2.here hx rfl (hb hby d27_17) rfl k) ?_
  show OGo p e below _ (T2.setTop (mkF m 18 #[.val (.ref a0), .val (.ref b2), .val (.int (0 : Int32))] [(.int (0 : Int32)), (.ref a0), (.int (0 : Int32)), (.ref b2)]))
  obtain ⟨cl5, Ar5, q5, S5, M5, Hs5, G5⟩ := id f3
  have hin5 := inb_of (j := (0 : Int32)) S5 ⟨(by decide), (by decide)⟩
  refine OGo.by (X2.aaload hx (j := (0 : Int32)) (v := (.ref c0)) (by rw [e2]; exact Ar5.1) (State.isArrayOf_alike hZ.alike Ar5.2.1) rfl Ar5.2.2 hin5 (Has.at Hs5 hin5 rfl) (g := (mkF m 18 #[.val (.ref a0), .val (.ref b2), .val (.int (0 : Int32))] [(.int (0 : Int32)), (.ref a0), (.int (0 : Int32)), (.ref b2)])) rfl rfl (hb hby d27_18)) ?_
  show OGo p e below _ (T2.setTop (mkF m 19 #[.val (.ref a0), .val (.ref b2), .val (.int (0 : Int32))] [(.ref c0), (.int (0 : Int32)), (.ref b2)]))
  obtain ⟨_, _, ⟨T6, L6, k6, n6⟩, -, X6, ⟨Lc6, hQ6, l6, y6, z6⟩, st6⟩ := Jvm.LawKit.callS X2 hx (y := (⟨"java/util/Objects", "requireNonNull", "(Ljava/lang/Object;)Ljava/lang/Object;"⟩ : MethodName)) hown (mvT hZ (hw _ (List.mem_of_getElem? (i := 210) rfl))) (mvT hZ (hw _ (List.mem_of_getElem? (i := 211) rfl))) (mvT hZ (hw _ (List.mem_of_getElem? (i := 212) rfl))) (mvT hZ (hw _ (List.mem_of_getElem? (i := 213) rfl))) (by decide) (backOf (W := 2) (rm28 l Z av0 hw [] c0 h2 n0 (Nat.le_trans Z0 K2.1)) hZ (hw _ (List.mem_of_getElem? (i := 213) rfl)) (hw _ (List.mem_of_getElem? (i := 212) rfl)) (by decide) (by decide)) (g := (mkF m 19 #[.val (.ref a0), .val (.ref b2), .val (.int (0 : Int32))] [(.ref c0), (.int (0 : Int32)), (.ref b2)])) rfl (by rw [hml]; rfl) (argsL := [(.ref c0)]) (rest := [(.int (0 : Int32)), (.ref b2)]) (lenOf own_pd5 rfl) rfl (by show 2 * 0 + _ ≤ _; exact Nat.le_of_eq rfl) (hb hby d27_19) (fun _ _ => ⟨rfl, e2, (by decide : 1 + 0 ≤ _), (by decide : 3 + 0 ≤ _)⟩)
  dsimp only [Pt.U, Pt.locs, Pt.cells, Pt.slots] at X6 l6 y6 z6 st6 hQ6
  subst l6 y6 z6
  obtain ⟨rfl, N6q, e6⟩ := hQ6
  have N6 := Fr.app N0 N6q
  refine OGo.by st6 ?_
  show OGo p e below _ (T6.setTop (mkF m 22 #[.val (.ref a0), .val (.ref b2), .val (.int (0 : Int32))] [(.ref c0), (.int (0 : Int32)), (.ref b2)]))
  obtain ⟨cl7, Ar7, q7, S7, M7, Hs7, G7⟩ := id V2
  have f8 : Exa Z h2 c0 "com/example/kept_inbox/keptinbox/UnreadConversation" := (Ec0.ext E2)
  obtain ⟨T7, h7, X7, e7, W7, st7⟩ := stR X6 hx hZ e6 Ar7 (j := (0 : Int32)) (inb_of S7 ⟨(by decide), (by decide)⟩) rfl (Sto.ofV Ar7 q7 O2 (Ins.of_exa f8 (hw _ (List.mem_of_getElem? (i := 168) rfl)))) (g := (mkF m 22 #[.val (.ref a0), .val (.ref b2), .val (.int (0 : Int32))] [(.ref c0), (.int (0 : Int32)), (.ref b2)])) rfl rfl (hb hby d27_22)
  refine OGo.by st7 ?_
  have N7 := Fr.snoc X7 N6 g_b2
  have K7 : Keep h0 h7 [] := (K2).wr W7 (Or.inr sz_b2)
  have V7 : Arv Z h7 b2 k2 (.object "java/lang/Object") (3 : Int32) [(.ref c0), .null, .null] .null := Arv.set Ar7 q7 S7 M7 Hs7 G7 rfl W7 0 rfl (Nat.le_of_ble_eq_true rfl)
  show OGo p e below _ (T7.setTop (mkF m 23 #[.val (.ref a0), .val (.ref b2), .val (.int (0 : Int32))] []))
  refine OGo.by (fun _ k => XS.iinc X7.here hx rfl (hb hby d27_23) rfl (l' := #[.val (.ref a0), .val (.ref b2), .val (.int (1 : Int32))]) rfl k) ?_
  show OGo p e below _ (T7.setTop (mkF m 26 #[.val (.ref a0), .val (.ref b2), .val (.int (1 : Int32))] []))
  refine OGo.by (fun _ k => XS.goto X7.here hx rfl (pc0 := 26) (pc' := 8) rfl (hb hby d27_26) (by decide) (by decide) k) ?_
  show OGo p e below _ (T7.setTop (mkF m 8 #[.val (.ref a0), .val (.ref b2), .val (.int (1 : Int32))] []))
  refine OGo.by (fun _ k => XS.iloadN X7.here hx rfl (hb hby d27_8) rfl k) ?_
  show OGo p e below _ (T7.setTop (mkF m 9 #[.val (.ref a0), .val (.ref b2), .val (.int (1 : Int32))] [(.int (1 : Int32))]))
  refine OGo.by (fun _ k => XS.aloadN X7.here hx rfl (hb hby d27_9) rfl rfl k) ?_
  show OGo p e below _ (T7.setTop (mkF m 10 #[.val (.ref a0), .val (.ref b2), .val (.int (1 : Int32))] [(.ref a0), (.int (1 : Int32))]))
  have f9 : Arv Z h7 a0 ka (.object "java/lang/Object") (3 : Int32) [(.ref c0), (.ref c1), (.ref c2)] .null := (f3.other W7 ne_a0_b2)
  obtain ⟨cl10, Ar10, q10, S10, M10, -, -⟩ := id f9
  refine OGo.by (X7.arraylength hx (by rw [e7]; exact Ar10.1) (State.isArrayOf_alike hZ.alike Ar10.2.1) (g := (mkF m 10 #[.val (.ref a0), .val (.ref b2), .val (.int (1 : Int32))] [(.ref a0), (.int (1 : Int32))])) rfl rfl (hb hby d27_10)) ?_
  rw [len_of S10 M10]
  show OGo p e below _ (T7.setTop (mkF m 11 #[.val (.ref a0), .val (.ref b2), .val (.int (1 : Int32))] [(.int (3 : Int32)), (.int (1 : Int32))]))
  refine OGo.by (fun _ k => XS.icmpNo X7.here hx rfl (hb hby d27_11) rfl (tlt (by decide : (1 : Int32) < (3 : Int32))).2.1 k) ?_
  show OGo p e below _ (T7.setTop (mkF m 14 #[.val (.ref a0), .val (.ref b2), .val (.int (1 : Int32))] []))
  refine OGo.by (fun _ k => XS.aloadN X7.here hx rfl (hb hby d27_14) rfl rfl k) ?_
  show OGo p e below _ (T7.setTop (mkF m 15 #[.val (.ref a0), .val (.ref b2), .val (.int (1 : Int32))] [(.ref b2)]))
  refine OGo.by (fun _ k => XS.iloadN X7.here hx rfl (hb hby d27_15) rfl k) ?_
  show OGo p e below _ (T7.setTop (mkF m 16 #[.val (.ref a0), .val (.ref b2), .val (.int (1 : Int32))] [(.int (1 : Int32)), (.ref b2)]))
  refine OGo.by (fun _ k => XS.aloadN X7.here hx rfl (hb hby d27_16) rfl rfl k) ?_
  show OGo p e below _ (T7.setTop (mkF m 17 #[.val (.ref a0), .val (.ref b2), .val (.int (1 : Int32))] [(.ref a0), (.int (1 : Int32)), (.ref b2)]))
  refine OGo.by (fun _ k => XS.iloadN X7.here hx rfl (hb hby d27_17) rfl k) ?_
  show OGo p e below _ (T7.setTop (mkF m 18 #[.val (.ref a0), .val (.ref b2), .val (.int (1 : Int32))] [(.int (1 : Int32)), (.ref a0), (.int (1 : Int32)), (.ref b2)]))
  obtain ⟨cl11, Ar11, q11, S11, M11, Hs11, G11⟩ := id f9
  have hin11 := inb_of (j := (1 : Int32)) S11 ⟨(by decide), (by decide)⟩
  refine OGo.by (X7.aaload hx (j := (1 : Int32)) (v := (.ref c1)) (by rw [e7]; exact Ar11.1) (State.isArrayOf_alike hZ.alike Ar11.2.1) rfl Ar11.2.2 hin11 (Has.at Hs11 hin11 rfl) (g := (mkF m 18 #[.val (.ref a0), .val (.ref b2), .val (.int (1 : Int32))] [(.int (1 : Int32)), (.ref a0), (.int (1 : Int32)), (.ref b2)])) rfl rfl (hb hby d27_18)) ?_
  show OGo p e below _ (T7.setTop (mkF m 19 #[.val (.ref a0), .val (.ref b2), .val (.int (1 : Int32))] [(.ref c1), (.int (1 : Int32)), (.ref b2)]))
  obtain ⟨_, _, ⟨T12, L12, k12, n12⟩, -, X12, ⟨Lc12, hQ12, l12, y12, z12⟩, st12⟩ := Jvm.LawKit.callS X7 hx (y := (⟨"java/util/Objects", "requireNonNull", "(Ljava/lang/Object;)Ljava/lang/Object;"⟩ : MethodName)) hown (mvT hZ (hw _ (List.mem_of_getElem? (i := 210) rfl))) (mvT hZ (hw _ (List.mem_of_getElem? (i := 211) rfl))) (mvT hZ (hw _ (List.mem_of_getElem? (i := 212) rfl))) (mvT hZ (hw _ (List.mem_of_getElem? (i := 213) rfl))) (by decide) (backOf (W := 2) (rm28 l Z av0 hw [] c1 h7 n0 (Nat.le_trans Z0 K7.1)) hZ (hw _ (List.mem_of_getElem? (i := 213) rfl)) (hw _ (List.mem_of_getElem? (i := 212) rfl)) (by decide) (by decide)) (g := (mkF m 19 #[.val (.ref a0), .val (.ref b2), .val (.int (1 : Int32))] [(.ref c1), (.int (1 : Int32)), (.ref b2)])) rfl (by rw [hml]; rfl) (argsL := [(.ref c1)]) (rest := [(.int (1 : Int32)), (.ref b2)]) (lenOf own_pd5 rfl) rfl (by show 2 * 0 + _ ≤ _; exact Nat.le_of_eq rfl) (hb hby d27_19) (fun _ _ => ⟨rfl, e7, (by decide : 1 + 0 ≤ _), (by decide : 3 + 0 ≤ _)⟩)
  dsimp only [Pt.U, Pt.locs, Pt.cells, Pt.slots] at X12 l12 y12 z12 st12 hQ12
  subst l12 y12 z12
  obtain ⟨rfl, N12q, e12⟩ := hQ12
  have N12 := Fr.app N7 N12q
  refine OGo.by st12 ?_
  show OGo p e below _ (T12.setTop (mkF m 22 #[.val (.ref a0), .val (.ref b2), .val (.int (1 : Int32))] [(.ref c1), (.int (1 : Int32)), (.ref b2)]))
  obtain ⟨cl13, Ar13, q13, S13, M13, Hs13, G13⟩ := id V7
  have f14 : Exa Z h7 c1 "com/example/kept_inbox/keptinbox/UnreadConversation" := ((Ec1.ext E2).wr W7)
  obtain ⟨T13, h13, X13, e13, W13, st13⟩ := stR X12 hx hZ e12 Ar13 (j := (1 : Int32)) (inb_of S13 ⟨(by decide), (by decide)⟩) rfl (Sto.ofV Ar13 q13 O2 (Ins.of_exa f14 (hw _ (List.mem_of_getElem? (i := 168) rfl)))) (g := (mkF m 22 #[.val (.ref a0), .val (.ref b2), .val (.int (1 : Int32))] [(.ref c1), (.int (1 : Int32)), (.ref b2)])) rfl rfl (hb hby d27_22)
  refine OGo.by st13 ?_
  have N13 := Fr.snoc X13 N12 g_b2
  have K13 : Keep h0 h13 [] := (K7).wr W13 (Or.inr sz_b2)
  have V13 : Arv Z h13 b2 k2 (.object "java/lang/Object") (3 : Int32) [(.ref c0), (.ref c1), .null] .null := Arv.set Ar13 q13 S13 M13 Hs13 G13 rfl W13 1 rfl (Nat.le_of_ble_eq_true rfl)
  show OGo p e below _ (T13.setTop (mkF m 23 #[.val (.ref a0), .val (.ref b2), .val (.int (1 : Int32))] []))
  refine OGo.by (fun _ k => XS.iinc X13.here hx rfl (hb hby d27_23) rfl (l' := #[.val (.ref a0), .val (.ref b2), .val (.int (2 : Int32))]) rfl k) ?_
  show OGo p e below _ (T13.setTop (mkF m 26 #[.val (.ref a0), .val (.ref b2), .val (.int (2 : Int32))] []))
  refine OGo.by (fun _ k => XS.goto X13.here hx rfl (pc0 := 26) (pc' := 8) rfl (hb hby d27_26) (by decide) (by decide) k) ?_
  show OGo p e below _ (T13.setTop (mkF m 8 #[.val (.ref a0), .val (.ref b2), .val (.int (2 : Int32))] []))
  refine OGo.by (fun _ k => XS.iloadN X13.here hx rfl (hb hby d27_8) rfl k) ?_
  show OGo p e below _ (T13.setTop (mkF m 9 #[.val (.ref a0), .val (.ref b2), .val (.int (2 : Int32))] [(.int (2 : Int32))]))
  refine OGo.by (fun _ k => XS.aloadN X13.here hx rfl (hb hby d27_9) rfl rfl k) ?_
  show OGo p e below _ (T13.setTop (mkF m 10 #[.val (.ref a0), .val (.ref b2), .val (.int (2 : Int32))] [(.ref a0), (.int (2 : Int32))]))
  have f15 : Arv Z h13 a0 ka (.object "java/lang/Object") (3 : Int32) [(.ref c0), (.ref c1), (.ref c2)] .null := (f9.other W13 ne_a0_b2)
  obtain ⟨cl16, Ar16, q16, S16, M16, -, -⟩ := id f15
  refine OGo.by (X13.arraylength hx (by rw [e13]; exact Ar16.1) (State.isArrayOf_alike hZ.alike Ar16.2.1) (g := (mkF m 10 #[.val (.ref a0), .val (.ref b2), .val (.int (2 : Int32))] [(.ref a0), (.int (2 : Int32))])) rfl rfl (hb hby d27_10)) ?_
  rw [len_of S16 M16]
  show OGo p e below _ (T13.setTop (mkF m 11 #[.val (.ref a0), .val (.ref b2), .val (.int (2 : Int32))] [(.int (3 : Int32)), (.int (2 : Int32))]))
  refine OGo.by (fun _ k => XS.icmpNo X13.here hx rfl (hb hby d27_11) rfl (tlt (by decide : (2 : Int32) < (3 : Int32))).2.1 k) ?_
  show OGo p e below _ (T13.setTop (mkF m 14 #[.val (.ref a0), .val (.ref b2), .val (.int (2 : Int32))] []))
  refine OGo.by (fun _ k => XS.aloadN X13.here hx rfl (hb hby d27_14) rfl rfl k) ?_
  show OGo p e below _ (T13.setTop (mkF m 15 #[.val (.ref a0), .val (.ref b2), .val (.int (2 : Int32))] [(.ref b2)]))
  refine OGo.by (fun _ k => XS.iloadN X13.here hx rfl (hb hby d27_15) rfl k) ?_
  show OGo p e below _ (T13.setTop (mkF m 16 #[.val (.ref a0), .val (.ref b2), .val (.int (2 : Int32))] [(.int (2 : Int32)), (.ref b2)]))
  refine OGo.by (fun _ k => XS.aloadN X13.here hx rfl (hb hby d27_16) rfl rfl k) ?_
  show OGo p e below _ (T13.setTop (mkF m 17 #[.val (.ref a0), .val (.ref b2), .val (.int (2 : Int32))] [(.ref a0), (.int (2 : Int32)), (.ref b2)]))
  refine OGo.by (fun _ k => XS.iloadN X13.here hx rfl (hb hby d27_17) rfl k) ?_
  show OGo p e below _ (T13.setTop (mkF m 18 #[.val (.ref a0), .val (.ref b2), .val (.int (2 : Int32))] [(.int (2 : Int32)), (.ref a0), (.int (2 : Int32)), (.ref b2)]))
  obtain ⟨cl17, Ar17, q17, S17, M17, Hs17, G17⟩ := id f15
  have hin17 := inb_of (j := (2 : Int32)) S17 ⟨(by decide), (by decide)⟩
  refine OGo.by (X13.aaload hx (j := (2 : Int32)) (v := (.ref c2)) (by rw [e13]; exact Ar17.1) (State.isArrayOf_alike hZ.alike Ar17.2.1) rfl Ar17.2.2 hin17 (Has.at Hs17 hin17 rfl) (g := (mkF m 18 #[.val (.ref a0), .val (.ref b2), .val (.int (2 : Int32))] [(.int (2 : Int32)), (.ref a0), (.int (2 : Int32)), (.ref b2)])) rfl rfl (hb hby d27_18)) ?_
  show OGo p e below _ (T13.setTop (mkF m 19 #[.val (.ref a0), .val (.ref b2), .val (.int (2 : Int32))] [(.ref c2), (.int (2 : Int32)), (.ref b2)]))
  obtain ⟨_, _, ⟨T18, L18, k18, n18⟩, -, X18, ⟨Lc18, hQ18, l18, y18, z18⟩, st18⟩ := Jvm.LawKit.callS X13 hx (y := (⟨"java/util/Objects", "requireNonNull", "(Ljava/lang/Object;)Ljava/lang/Object;"⟩ : MethodName)) hown (mvT hZ (hw _ (List.mem_of_getElem? (i := 210) rfl))) (mvT hZ (hw _ (List.mem_of_getElem? (i := 211) rfl))) (mvT hZ (hw _ (List.mem_of_getElem? (i := 212) rfl))) (mvT hZ (hw _ (List.mem_of_getElem? (i := 213) rfl))) (by decide) (backOf (W := 2) (rm28 l Z av0 hw [] c2 h13 n0 (Nat.le_trans Z0 K13.1)) hZ (hw _ (List.mem_of_getElem? (i := 213) rfl)) (hw _ (List.mem_of_getElem? (i := 212) rfl)) (by decide) (by decide)) (g := (mkF m 19 #[.val (.ref a0), .val (.ref b2), .val (.int (2 : Int32))] [(.ref c2), (.int (2 : Int32)), (.ref b2)])) rfl (by rw [hml]; rfl) (argsL := [(.ref c2)]) (rest := [(.int (2 : Int32)), (.ref b2)]) (lenOf own_pd5 rfl) rfl (by show 2 * 0 + _ ≤ _; exact Nat.le_of_eq rfl) (hb hby d27_19) (fun _ _ => ⟨rfl, e13, (by decide : 1 + 0 ≤ _), (by decide : 3 + 0 ≤ _)⟩)
  dsimp only [Pt.U, Pt.locs, Pt.cells, Pt.slots] at X18 l18 y18 z18 st18 hQ18
  subst l18 y18 z18
  obtain ⟨rfl, N18q, e18⟩ := hQ18
  have N18 := Fr.app N13 N18q
  refine OGo.by st18 ?_
  show OGo p e below _ (T18.setTop (mkF m 22 #[.val (.ref a0), .val (.ref b2), .val (.int (2 : Int32))] [(.ref c2), (.int (2 : Int32)), (.ref b2)]))
  obtain ⟨cl19, Ar19, q19, S19, M19, Hs19, G19⟩ := id V13
  have f20 : Exa Z h13 c2 "com/example/kept_inbox/keptinbox/UnreadConversation" := (((Ec2.ext E2).wr W7).wr W13)
  obtain ⟨T19, h19, X19, e19, W19, st19⟩ := stR X18 hx hZ e18 Ar19 (j := (2 : Int32)) (inb_of S19 ⟨(by decide), (by decide)⟩) rfl (Sto.ofV Ar19 q19 O2 (Ins.of_exa f20 (hw _ (List.mem_of_getElem? (i := 168) rfl)))) (g := (mkF m 22 #[.val (.ref a0), .val (.ref b2), .val (.int (2 : Int32))] [(.ref c2), (.int (2 : Int32)), (.ref b2)])) rfl rfl (hb hby d27_22)
  refine OGo.by st19 ?_
  have N19 := Fr.snoc X19 N18 g_b2
  have K19 : Keep h0 h19 [] := (K13).wr W19 (Or.inr sz_b2)
  have V19 : Arv Z h19 b2 k2 (.object "java/lang/Object") (3 : Int32) [(.ref c0), (.ref c1), (.ref c2)] .null := Arv.set Ar19 q19 S19 M19 Hs19 G19 rfl W19 2 rfl (Nat.le_of_ble_eq_true rfl)
  show OGo p e below _ (T19.setTop (mkF m 23 #[.val (.ref a0), .val (.ref b2), .val (.int (2 : Int32))] []))
  refine OGo.by (fun _ k => XS.iinc X19.here hx rfl (hb hby d27_23) rfl (l' := #[.val (.ref a0), .val (.ref b2), .val (.int (3 : Int32))]) rfl k) ?_
  show OGo p e below _ (T19.setTop (mkF m 26 #[.val (.ref a0), .val (.ref b2), .val (.int (3 : Int32))] []))
  refine OGo.by (fun _ k => XS.goto X19.here hx rfl (pc0 := 26) (pc' := 8) rfl (hb hby d27_26) (by decide) (by decide) k) ?_
  show OGo p e below _ (T19.setTop (mkF m 8 #[.val (.ref a0), .val (.ref b2), .val (.int (3 : Int32))] []))
  refine OGo.by (fun _ k => XS.iloadN X19.here hx rfl (hb hby d27_8) rfl k) ?_
  show OGo p e below _ (T19.setTop (mkF m 9 #[.val (.ref a0), .val (.ref b2), .val (.int (3 : Int32))] [(.int (3 : Int32))]))
  refine OGo.by (fun _ k => XS.aloadN X19.here hx rfl (hb hby d27_9) rfl rfl k) ?_
  show OGo p e below _ (T19.setTop (mkF m 10 #[.val (.ref a0), .val (.ref b2), .val (.int (3 : Int32))] [(.ref a0), (.int (3 : Int32))]))
  have f21 : Arv Z h19 a0 ka (.object "java/lang/Object") (3 : Int32) [(.ref c0), (.ref c1), (.ref c2)] .null := (f15.other W19 ne_a0_b2)
  obtain ⟨cl22, Ar22, q22, S22, M22, -, -⟩ := id f21
  refine OGo.by (X19.arraylength hx (by rw [e19]; exact Ar22.1) (State.isArrayOf_alike hZ.alike Ar22.2.1) (g := (mkF m 10 #[.val (.ref a0), .val (.ref b2), .val (.int (3 : Int32))] [(.ref a0), (.int (3 : Int32))])) rfl rfl (hb hby d27_10)) ?_
  rw [len_of S22 M22]
  show OGo p e below _ (T19.setTop (mkF m 11 #[.val (.ref a0), .val (.ref b2), .val (.int (3 : Int32))] [(.int (3 : Int32)), (.int (3 : Int32))]))
  refine OGo.by (fun _ k => XS.icmpYes X19.here hx rfl (pc0 := 11) (pc' := 29) rfl (hb hby d27_11) rfl (flt (by decide : ¬ ((3 : Int32) < (3 : Int32)))).2.1 (by decide) (by decide) k) ?_
  show OGo p e below _ (T19.setTop (mkF m 29 #[.val (.ref a0), .val (.ref b2), .val (.int (3 : Int32))] []))
  obtain ⟨T23, h23, X23, e23, E23, A23, D23, U23, st23⟩ := newO X19 hx hZ hown (hw _ (List.mem_of_getElem? (i := 51) rfl)) (hw _ (List.mem_of_getElem? (i := 214) rfl)) (hw _ (List.mem_of_getElem? (i := 92) rfl)) e19 (g := (mkF m 29 #[.val (.ref a0), .val (.ref b2), .val (.int (3 : Int32))] [])) rfl (hb hby d27_29) (by decide) (by decide)
  obtain ⟨b23, g23⟩ : ∃ z, z = h19.size := ⟨_, rfl⟩
  rw [← g23] at A23 D23 U23 st23
  have ne_a0_b23 : a0 ≠ b23 := Nat.ne_of_lt (Nat.lt_of_lt_of_le f21.lt (Nat.le_of_eq g23.symm))
  have f24 : Exa Z h19 c0 "com/example/kept_inbox/keptinbox/UnreadConversation" := (((f8.wr W7).wr W13).wr W19)
  have ne_c0_b23 : c0 ≠ b23 := Nat.ne_of_lt (Nat.lt_of_lt_of_le f24.lt (Nat.le_of_eq g23.symm))
  have f25 : Exa Z h19 c1 "com/example/kept_inbox/keptinbox/UnreadConversation" := ((f14.wr W13).wr W19)
  have ne_c1_b23 : c1 ≠ b23 := Nat.ne_of_lt (Nat.lt_of_lt_of_le f25.lt (Nat.le_of_eq g23.symm))
  have f26 : Exa Z h19 c2 "com/example/kept_inbox/keptinbox/UnreadConversation" := (f20.wr W19)
  have ne_c2_b23 : c2 ≠ b23 := Nat.ne_of_lt (Nat.lt_of_lt_of_le f26.lt (Nat.le_of_eq g23.symm))
  have ne_b2_b23 : b2 ≠ b23 := Nat.ne_of_lt (Nat.lt_of_lt_of_le V19.lt (Nat.le_of_eq g23.symm))
  have g_b23 : n0 ≤ b23 := Nat.le_trans (Nat.le_trans Z0 K19.1) (Nat.le_of_eq g23.symm)
  have sz_b23 : h0.size ≤ b23 := Nat.le_trans K19.1 (Nat.le_of_eq g23.symm)
  refine OGo.by st23 ?_
  have K23 : Keep h0 h23 [] := (K19).ext E23
  have F23_elements : Fld Z h23 b23 "java/util/ImmutableCollections$ListN" "elements" "[Ljava/lang/Object;" .null := D23 (Or.inr (hw _ (List.mem_of_getElem? (i := 95) rfl))) (ty := (.array (.object "java/lang/Object"))) (by decide)
  have F23_allowNulls : Fld Z h23 b23 "java/util/ImmutableCollections$ListN" "allowNulls" "Z" (.int (0 : Int32)) := D23 (Or.inr (hw _ (List.mem_of_getElem? (i := 233) rfl))) (ty := .boolean) (by decide)
  show OGo p e below _ (T23.setTop (mkF m 32 #[.val (.ref a0), .val (.ref b2), .val (.int (3 : Int32))] [(.ref b23)]))
  refine OGo.by (fun _ k => XS.dup X23.here hx rfl (hb hby d27_32) rfl rfl k) ?_
  show OGo p e below _ (T23.setTop (mkF m 33 #[.val (.ref a0), .val (.ref b2), .val (.int (3 : Int32))] [(.ref b23), (.ref b23)]))
  refine OGo.by (fun _ k => XS.aloadN X23.here hx rfl (hb hby d27_33) rfl rfl k) ?_
  show OGo p e below _ (T23.setTop (mkF m 34 #[.val (.ref a0), .val (.ref b2), .val (.int (3 : Int32))] [(.ref b2), (.ref b23), (.ref b23)]))
  refine OGo.by (fun _ k => XS.iconst X23.here hx rfl (hb hby d27_34) k) ?_
  show OGo p e below _ (T23.setTop (mkF m 35 #[.val (.ref a0), .val (.ref b2), .val (.int (3 : Int32))] [(.int (0 : Int32)), (.ref b2), (.ref b23), (.ref b23)]))
  obtain ⟨_, _, ⟨T27, L27, k27, n27⟩, -, X27, ⟨Lc27, hQ27, l27, y27, z27⟩, st27⟩ := X23.specialBackNest hx (y := (⟨"java/util/ImmutableCollections$ListN", "<init>", "([Ljava/lang/Object;Z)V"⟩ : MethodName)) rfl hown (own_mvMN hZ (hw _ (List.mem_of_getElem? (i := 215) rfl))) (mvT hZ (hw _ (List.mem_of_getElem? (i := 216) rfl))) (mvT hZ (hw _ (List.mem_of_getElem? (i := 218) rfl))) (by decide) (backOf (W := 1) (rm29 l Z av0 hw [] b23 b2 h23 n0 (Nat.le_trans Z0 K23.1) A23 F23_elements F23_allowNulls g_b23) hZ (hw _ (List.mem_of_getElem? (i := 218) rfl)) (hw _ (List.mem_of_getElem? (i := 92) rfl)) (by decide) (by decide)) (g := (mkF m 35 #[.val (.ref a0), .val (.ref b2), .val (.int (3 : Int32))] [(.int (0 : Int32)), (.ref b2), (.ref b23), (.ref b23)])) rfl (by rw [hml]; rfl) (Steps.refl _) (a := b23) (argsL := [(.ref b2), (.int (0 : Int32))]) (rest := [(.ref b23)]) (lenOf own_pd14 rfl) rfl (by show 2 * 0 + _ ≤ _; exact Nat.le_of_eq rfl) (hb hby d27_35) (fun _ _ => ⟨rfl, e23, (by decide : 2 + 0 ≤ _), (by decide : 5 + 0 ≤ _)⟩)
  dsimp only [Pt.U, Pt.locs, Pt.cells, Pt.slots] at X27 l27 y27 z27 st27 hQ27
  subst l27 y27 z27
  obtain ⟨rfl, N27q, Kc27, G27_0, G27_1⟩ := hQ27
  have N27 := Fr.app N19 N27q
  have K27 : Keep h0 T27.heap [] := (K23).trans Kc27 (allS (P := fun x => x ∈ ([] : List Addr) ∨ h0.size ≤ x) (Or.inr sz_b23) (all0 (P := fun x => x ∈ ([] : List Addr) ∨ h0.size ≤ x)))
  refine OGo.of st27 ?_
  show OGo p e below _ (T27.setTop (mkF m 38 #[.val (.ref a0), .val (.ref b2), .val (.int (3 : Int32))] [(.ref b23)]))
  obtain ⟨fs, hr, hrun, hended, hW, hsame⟩ := X27.leave (v := some (.ref b23)) (fun h => by rw [Bd.returns] at h; cases h)
  refine OGo.ret (retOut X27 hx Bd.returns rfl (Or.inr (Or.inr (Or.inr (Or.inr ⟨rfl, rfl, rfl⟩)))) (hb hby d27_38) hr) hrun hended ⟨_, _, rfl, ?_, ⟨_, rfl⟩, hW, hsame.mono (by decide) (by decide)⟩
  show Q_rm_lfa Z a0 ka c0 c1 c2 h0 n0 _ T27.heap _
  have f28 : Arv Z T27.heap b2 k2 (.object "java/lang/Object") (3 : Int32) [(.ref c0), (.ref c1), (.ref c2)] .null := ((V19.ext E23).keep Kc27 (ninS ne_b2_b23 nin0))
  exact ⟨b23, b2, k2, rfl, N27, K27, sz_b23, g_b23, sz_b2, g_b2, ne_b2_b23, G27_0, G27_1, f28⟩
theorem d26_59 : decode jdk_40_method_47_code 59 = .ok (.aload_n 0, 1) := by decide +kernel
theorem d26_60 : decode jdk_40_method_47_code 60 = .ok (.invokestatic 109, 3) := by decide +kernel
theorem d26_63 : decode jdk_40_method_47_code 63 = .ok (.areturn, 1) := by decide +kernel
theorem ef_rm_lof3 (m : MethodId) (a0 : Addr) : entryFrame m #[(.ref a0)] 2 = mkF m 0 #[.val (.ref a0), .unset] [] := by first | (simp [entryFrame, mkF, argsToLocals, Value.category]; done) | rfl
def Q_rm_lof3 (Z : State) (a0 : Addr) (ka : ClassId) (c0 : Addr) (c1 : Addr) (c2 : Addr) (h0 : Heap) (n0 : Nat) (v : Option Value) (h : Heap) (L : List Loc) : Prop := ∃ b : Addr, ∃ t : Addr, ∃ kt : ClassId, v = some (.ref b) ∧ Fr n0 L ∧ Keep h0 h [] ∧ (h0.size ≤ b) ∧ (n0 ≤ b) ∧ (h0.size ≤ t) ∧ (n0 ≤ t) ∧ (t ≠ b) ∧ (Exa Z h b "java/util/ImmutableCollections$ListN") ∧ (Fld Z h b "java/util/ImmutableCollections$ListN" "elements" "[Ljava/lang/Object;" (.ref t)) ∧ (Arv Z h t kt (.object "java/lang/Object") (3 : Int32) [(.ref c0), (.ref c1), (.ref c2)] .null)
set_option maxRecDepth 65536 in
set_option maxHeartbeats 40000000 in
theorem rm_lof3 (l : Launch) (Z : State) (av0 : Array Value) (hw : ∀ d ∈ tables_1, d.before av0 Z = true) (ws : List Jvm.Cond) (a0 : Addr) (ka : ClassId) (c0 : Addr) (c1 : Addr) (c2 : Addr) (h0 : Heap) (n0 : Nat) (Z0 : n0 ≤ h0.size) (A_a : Arv Z h0 a0 ka (.object "java/lang/Object") (3 : Int32) [(.ref c0), (.ref c1), (.ref c2)] .null) (Ec0 : Exa Z h0 c0 "com/example/kept_inbox/keptinbox/UnreadConversation") (Ec1 : Exa Z h0 c1 "com/example/kept_inbox/keptinbox/UnreadConversation") (Ec2 : Exa Z h0 c2 "com/example/kept_inbox/keptinbox/UnreadConversation") :
    MetFree l (⟨"java/util/List", "of", "([Ljava/lang/Object;)Ljava/util/List;"⟩ : MethodName) (head1 (Jvm.Cond.code (⟨"java/util/List", "of", "([Ljava/lang/Object;)Ljava/util/List;"⟩ : MethodName) jdk_40_method_47_code 2 (some (.object "java/util/List")) :: ws) ({ frames := 6, cells := 2, slots := 5, locals := 77 } : Room)) (fun a U => a = #[(.ref a0)] ∧ Z.Warmed39 U.vm ∧ U.heap = h0) (fun _ _ _ _ _ => True) (fun _ U o U' => ∃ v L, o = .returned v ∧ Q_rm_lof3 Z a0 ka c0 c1 c2 h0 n0 v U'.heap L ∧ FrameEnd U o U' L ({ frames := 6, cells := 2, slots := 5, locals := 77 } : Room).cells ({ frames := 6, cells := 2, slots := 5, locals := 77 } : Room).slots) := by
  refine MetFree.of_bodySF (plainFor_of_name own_pn26) hisR ?_
  intro p e s m args below meth c s₁ Bd hml0 hP hK
  obtain ⟨rfl, hZ, hh⟩ := hP
  have hx := Bd.exec
  have hby := Bd.bytes
  have hml : c.maxLocals = 2 := hml0
  have hown : s.vm.findClass "java/util/List" = some m.cls := findClass_of_methodNamed Bd.named
  have hnm := (name_of_methodNamed Bd.named Bd.method).1
  have X0 : Stand p l e ({ frames := 6, cells := 2, slots := 5, locals := 77 } : Room) s m #[(.ref a0)] below meth c s₁ [] 0 0 := Stand.of_body Bd
  have e0 : s₁.heap = h0 := by rw [← hh, Bd.state]; rfl
  have N0 := Fr.nil n0
  refine OGo.by (P := fun U' o => ∃ v L, o = .returned v ∧ Q_rm_lof3 Z a0 ka c0 c1 c2 h0 n0 v U'.heap L ∧ FrameEnd s o U' L ({ frames := 6, cells := 2, slots := 5, locals := 77 } : Room).cells ({ frames := 6, cells := 2, slots := 5, locals := 77 } : Room).slots) (fun T_ k_ => castTop (ef_rm_lof3 m a0) k_) ?_
  show OGo p e below _ (s₁.setTop (mkF m 0 #[.val (.ref a0), .unset] []))
  refine OGo.by (fun _ k => XS.aloadN X0.here hx rfl (hb hby d26_0) rfl rfl k) ?_
  show OGo p e below _ (s₁.setTop (mkF m 1 #[.val (.ref a0), .unset] [(.ref a0)]))
  obtain ⟨cl1, Ar1, q1, S1, M1, -, -⟩ := id A_a
  refine OGo.by (X0.arraylength hx (by rw [e0]; exact Ar1.1) (State.isArrayOf_alike hZ.alike Ar1.2.1) (g := (mkF m 1 #[.val (.ref a0), .unset] [(.ref a0)])) rfl rfl (hb hby d26_1)) ?_
  rw [len_of S1 M1]
  show OGo p e below _ (s₁.setTop (mkF m 2 #[.val (.ref a0), .unset] [(.int (3 : Int32))]))
  refine OGo.by (fun _ k => XS.tswOut X0.here hx rfl (pc0 := 2) (pc' := 59) rfl (hb hby d26_2) rfl (by decide) (by decide) (by decide) k) ?_
  show OGo p e below _ (s₁.setTop (mkF m 59 #[.val (.ref a0), .unset] []))
  refine OGo.by (fun _ k => XS.aloadN X0.here hx rfl (hb hby d26_59) rfl rfl k) ?_
  show OGo p e below _ (s₁.setTop (mkF m 60 #[.val (.ref a0), .unset] [(.ref a0)]))
  obtain ⟨_, _, ⟨T2, L2, k2, n2⟩, -, X2, ⟨Lc2, hQ2, l2, y2, z2⟩, st2⟩ := Jvm.LawKit.callS X0 hx (y := (⟨"java/util/ImmutableCollections", "listFromArray", "([Ljava/lang/Object;)Ljava/util/List;"⟩ : MethodName)) hown (mvT hZ (hw _ (List.mem_of_getElem? (i := 206) rfl))) (mvT hZ (hw _ (List.mem_of_getElem? (i := 207) rfl))) (mvT hZ (hw _ (List.mem_of_getElem? (i := 44) rfl))) (mvT hZ (hw _ (List.mem_of_getElem? (i := 208) rfl))) (by decide) (backOf (W := 0) (rm_lfa l Z av0 hw [] a0 ka c0 c1 c2 h0 n0 Z0 A_a Ec0 Ec1 Ec2) hZ (hw _ (List.mem_of_getElem? (i := 208) rfl)) (hw _ (List.mem_of_getElem? (i := 44) rfl)) (by decide) (by decide)) (g := (mkF m 60 #[.val (.ref a0), .unset] [(.ref a0)])) rfl (by rw [hml]; rfl) (argsL := [(.ref a0)]) (rest := []) (lenOf own_pd12 rfl) rfl (by show 2 * 0 + _ ≤ _; exact Nat.le_of_eq rfl) (hb hby d26_60) (fun _ _ => ⟨rfl, e0, (by decide : 0 + 2 ≤ _), (by decide : 0 + 5 ≤ _)⟩)
  dsimp only [Pt.U, Pt.locs, Pt.cells, Pt.slots] at X2 l2 y2 z2 st2 hQ2
  subst l2 y2 z2
  obtain ⟨b_2, t_2, kt_2, rfl, N2q, Kc2, G2_0, G2_1, G2_2, G2_3, G2_4, G2_5, G2_6, G2_7⟩ := hQ2
  have N2 := Fr.app N0 N2q
  have ne_a0_b_2 : a0 ≠ b_2 := Nat.ne_of_lt (Nat.lt_of_lt_of_le A_a.lt G2_0)
  have ne_c0_b_2 : c0 ≠ b_2 := Nat.ne_of_lt (Nat.lt_of_lt_of_le Ec0.lt G2_0)
  have ne_c1_b_2 : c1 ≠ b_2 := Nat.ne_of_lt (Nat.lt_of_lt_of_le Ec1.lt G2_0)
  have ne_c2_b_2 : c2 ≠ b_2 := Nat.ne_of_lt (Nat.lt_of_lt_of_le Ec2.lt G2_0)
  have g_b_2 : n0 ≤ b_2 := Nat.le_trans Z0 G2_0
  have sz_b_2 : h0.size ≤ b_2 := Nat.le_trans (Nat.le_refl _) G2_0
  have ne_a0_t_2 : a0 ≠ t_2 := Nat.ne_of_lt (Nat.lt_of_lt_of_le A_a.lt G2_2)
  have ne_c0_t_2 : c0 ≠ t_2 := Nat.ne_of_lt (Nat.lt_of_lt_of_le Ec0.lt G2_2)
  have ne_c1_t_2 : c1 ≠ t_2 := Nat.ne_of_lt (Nat.lt_of_lt_of_le Ec1.lt G2_2)
  have ne_c2_t_2 : c2 ≠ t_2 := Nat.ne_of_lt (Nat.lt_of_lt_of_le Ec2.lt G2_2)
  have g_t_2 : n0 ≤ t_2 := Nat.le_trans Z0 G2_2
  have sz_t_2 : h0.size ≤ t_2 := Nat.le_trans (Nat.le_refl _) G2_2
  have K2 : Keep h0 T2.heap [] := ((Keep.refl h0 [])).trans Kc2 (all0 (P := fun x => x ∈ ([] : List Addr) ∨ h0.size ≤ x))
  refine OGo.by st2 ?_
  show OGo p e below _ (T2.setTop (mkF m 63 #[.val (.ref a0), .unset] [(.ref b_2)]))
  obtain ⟨fs, hr, hrun, hended, hW, hsame⟩ := X2.leave (v := some (.ref b_2)) (fun h => by rw [Bd.returns] at h; cases h)
  refine OGo.ret (retOut X2 hx Bd.returns rfl (Or.inr (Or.inr (Or.inr (Or.inr ⟨rfl, rfl, rfl⟩)))) (hb hby d26_63) hr) hrun hended ⟨_, _, rfl, ?_, ⟨_, rfl⟩, hW, hsame.mono (by decide) (by decide)⟩
  show Q_rm_lof3 Z a0 ka c0 c1 c2 h0 n0 _ T2.heap _
  exact ⟨b_2, t_2, kt_2, rfl, N2, K2, sz_b_2, g_b_2, sz_t_2, g_t_2, G2_4, G2_5, G2_6, G2_7⟩
theorem ef_rm_lc3 (m : MethodId) (a0 : Addr) : entryFrame m #[(.ref a0)] 2 = mkF m 0 #[.val (.ref a0), .unset] [] := by first | (simp [entryFrame, mkF, argsToLocals, Value.category]; done) | rfl
def Q_rm_lc3 (Z : State) (a0 : Addr) (d : Addr) (kd : ClassId) (mr : Addr) (c0 : Addr) (c1 : Addr) (c2 : Addr) (h0 : Heap) (n0 : Nat) (v : Option Value) (h : Heap) (L : List Loc) : Prop := ∃ b : Addr, ∃ t : Addr, ∃ kt : ClassId, v = some (.ref b) ∧ Fr n0 L ∧ Keep h0 h [] ∧ (h0.size ≤ b) ∧ (n0 ≤ b) ∧ (h0.size ≤ t) ∧ (n0 ≤ t) ∧ (t ≠ b) ∧ (Exa Z h b "java/util/ImmutableCollections$ListN") ∧ (Fld Z h b "java/util/ImmutableCollections$ListN" "elements" "[Ljava/lang/Object;" (.ref t)) ∧ (Arv Z h t kt (.object "java/lang/Object") (3 : Int32) [(.ref c0), (.ref c1), (.ref c2)] .null)
set_option maxRecDepth 65536 in
set_option maxHeartbeats 40000000 in
theorem rm_lc3 (l : Launch) (Z : State) (av0 : Array Value) (hw : ∀ d ∈ tables_1, d.before av0 Z = true) (ws : List Jvm.Cond) (a0 : Addr) (d : Addr) (kd : ClassId) (mr : Addr) (c0 : Addr) (c1 : Addr) (c2 : Addr) (h0 : Heap) (n0 : Nat) (Z0 : n0 ≤ h0.size) (E0 : Exa Z h0 a0 "java/util/ArrayList") (F0 : Fld Z h0 a0 "java/util/ArrayList" "size" "I" (.int (3 : Int32))) (F1 : Fld Z h0 a0 "java/util/ArrayList" "elementData" "[Ljava/lang/Object;" (.ref d)) (A_d : Arv Z h0 d kd (.object "java/lang/Object") (10 : Int32) [(.ref c0), (.ref c1), (.ref c2), .null, .null, .null, .null, .null, .null, .null] .null) (E_d : Exa Z h0 d "[Ljava/lang/Object;") (M_0 : Mir Z "[Ljava/lang/Object;" mr) (Ec0 : Exa Z h0 c0 "com/example/kept_inbox/keptinbox/UnreadConversation") (Ec1 : Exa Z h0 c1 "com/example/kept_inbox/keptinbox/UnreadConversation") (Ec2 : Exa Z h0 c2 "com/example/kept_inbox/keptinbox/UnreadConversation") :
    MetFree l (⟨"java/util/ImmutableCollections", "listCopy", "(Ljava/util/Collection;)Ljava/util/List;"⟩ : MethodName) (head1 (Jvm.Cond.code (⟨"java/util/ImmutableCollections", "listCopy", "(Ljava/util/Collection;)Ljava/util/List;"⟩ : MethodName) jdk_56_method_3_code 2 (some (.object "java/util/List")) :: ws) ({ frames := 7, cells := 3, slots := 8, locals := 90 } : Room)) (fun a U => a = #[(.ref a0)] ∧ Z.Warmed39 U.vm ∧ U.heap = h0) (fun _ _ _ _ _ => True) (fun _ U o U' => ∃ v L, o = .returned v ∧ Q_rm_lc3 Z a0 d kd mr c0 c1 c2 h0 n0 v U'.heap L ∧ FrameEnd U o U' L ({ frames := 7, cells := 3, slots := 8, locals := 90 } : Room).cells ({ frames := 7, cells := 3, slots := 8, locals := 90 } : Room).slots) := by
  refine MetFree.of_bodySF (plainFor_of_name own_pn8) hisR ?_
  intro p e s m args below meth c s₁ Bd hml0 hP hK
  obtain ⟨rfl, hZ, hh⟩ := hP
  have hx := Bd.exec
  have hby := Bd.bytes
  have hml : c.maxLocals = 2 := hml0
  have hown : s.vm.findClass "java/util/ImmutableCollections" = some m.cls := findClass_of_methodNamed Bd.named
  have hnm := (name_of_methodNamed Bd.named Bd.method).1
  have X0 : Stand p l e ({ frames := 7, cells := 3, slots := 8, locals := 90 } : Room) s m #[(.ref a0)] below meth c s₁ [] 0 0 := Stand.of_body Bd
  have e0 : s₁.heap = h0 := by rw [← hh, Bd.state]; rfl
  have N0 := Fr.nil n0
  refine OGo.by (P := fun U' o => ∃ v L, o = .returned v ∧ Q_rm_lc3 Z a0 d kd mr c0 c1 c2 h0 n0 v U'.heap L ∧ FrameEnd s o U' L ({ frames := 7, cells := 3, slots := 8, locals := 90 } : Room).cells ({ frames := 7, cells := 3, slots := 8, locals := 90 } : Room).slots) (fun T_ k_ => castTop (ef_rm_lc3 m a0) k_) ?_
  show OGo p e below _ (s₁.setTop (mkF m 0 #[.val (.ref a0), .unset] []))
  refine OGo.by (fun _ k => XS.aloadN X0.here hx rfl (hb hby d8_0) rfl rfl k) ?_
  show OGo p e below _ (s₁.setTop (mkF m 1 #[.val (.ref a0), .unset] [(.ref a0)]))
  obtain ⟨T1, X1, e1, st1⟩ := instNo X0 hx hZ hown (hw _ (List.mem_of_getElem? (i := 46) rfl)) e0 E0 (own_nsNo (hw _ (List.mem_of_getElem? (i := 47) rfl)) (hw _ (List.mem_of_getElem? (i := 258) rfl)) (NS.step (hw _ (List.mem_of_getElem? (i := 47) rfl)) (NS.step (hw _ (List.mem_of_getElem? (i := 48) rfl)) (NS.step (hw _ (List.mem_of_getElem? (i := 49) rfl)) (own_nsRoot (hw _ (List.mem_of_getElem? (i := 50) rfl)) (hw _ (List.mem_of_getElem? (i := 258) rfl)) (by decide)) (by decide)) (by decide)) (by decide)) (by decide)) (g := (mkF m 1 #[.val (.ref a0), .unset] [(.ref a0)])) rfl rfl (hb hby d8_1)
  refine OGo.by st1 ?_
  show OGo p e below _ (T1.setTop (mkF m 4 #[.val (.ref a0), .unset] [(.int (0 : Int32))]))
  refine OGo.by (fun _ k => XS.ifNo X1.here hx rfl (hb hby d8_4) rfl ((if0 _ _).trans (teq (by decide : (0 : Int32) = (0 : Int32))).2) k) ?_
  show OGo p e below _ (T1.setTop (mkF m 7 #[.val (.ref a0), .unset] []))
  refine OGo.by (fun _ k => XS.aloadN X1.here hx rfl (hb hby d8_7) rfl rfl k) ?_
  show OGo p e below _ (T1.setTop (mkF m 8 #[.val (.ref a0), .unset] [(.ref a0)]))
  obtain ⟨T2, X2, e2, st2⟩ := instNo X1 hx hZ hown (hw _ (List.mem_of_getElem? (i := 51) rfl)) e1 E0 (own_nsNo (hw _ (List.mem_of_getElem? (i := 47) rfl)) (hw _ (List.mem_of_getElem? (i := 214) rfl)) (NS.step (hw _ (List.mem_of_getElem? (i := 47) rfl)) (NS.step (hw _ (List.mem_of_getElem? (i := 48) rfl)) (NS.step (hw _ (List.mem_of_getElem? (i := 49) rfl)) (own_nsRoot (hw _ (List.mem_of_getElem? (i := 50) rfl)) (hw _ (List.mem_of_getElem? (i := 214) rfl)) (by decide)) (by decide)) (by decide)) (by decide)) (by decide)) (g := (mkF m 8 #[.val (.ref a0), .unset] [(.ref a0)])) rfl rfl (hb hby d8_8)
  refine OGo.by st2 ?_
  show OGo p e below _ (T2.setTop (mkF m 11 #[.val (.ref a0), .unset] [(.int (0 : Int32))]))
  refine OGo.by (fun _ k => XS.ifYes X2.here hx rfl (pc0 := 11) (pc' := 31) rfl (hb hby d8_11) rfl ((if0 _ _).trans (teq (by decide : (0 : Int32) = (0 : Int32))).1) (by decide) (by decide) k) ?_
  show OGo p e below _ (T2.setTop (mkF m 31 #[.val (.ref a0), .unset] []))
  refine OGo.by (fun _ k => XS.aloadN X2.here hx rfl (hb hby d8_31) rfl rfl k) ?_
  show OGo p e below _ (T2.setTop (mkF m 32 #[.val (.ref a0), .unset] [(.ref a0)]))
  obtain ⟨cq3, kq3, q3a, q3b, q3c⟩ := isOf hZ e2 E0
  obtain ⟨_, _, ⟨T3, L3, k3, n3⟩, -, X3, ⟨Lc3, hQ3, l3, y3, z3⟩, st3⟩ := X2.interfaceBack hx (xi := (⟨"java/util/Collection", "isEmpty", "()Z"⟩ : MethodName)) (y := (⟨"java/util/ArrayList", "isEmpty", "()Z"⟩ : MethodName)) hown (mvT hZ (hw _ (List.mem_of_getElem? (i := 52) rfl))) (mvT hZ (hw _ (List.mem_of_getElem? (i := 53) rfl))) (mvT hZ (hw _ (List.mem_of_getElem? (i := 54) rfl))) (mvT hZ (hw _ (List.mem_of_getElem? (i := 55) rfl))) (mvT hZ (hw _ (List.mem_of_getElem? (i := 56) rfl))) (mvT hZ (hw _ (List.mem_of_getElem? (i := 57) rfl))) (mvT hZ (hw _ (List.mem_of_getElem? (i := 58) rfl))) (mvT hZ (hw _ (List.mem_of_getElem? (i := 59) rfl))) (by decide) (backOf (W := 0) (rm_emp3 l Z av0 hw [] a0 h0 n0 Z0 F0) hZ (hw _ (List.mem_of_getElem? (i := 60) rfl)) (hw _ (List.mem_of_getElem? (i := 2) rfl)) (by decide) (by decide)) q3a q3b q3c (g := (mkF m 32 #[.val (.ref a0), .unset] [(.ref a0)])) rfl (by rw [hml]; rfl) (Steps.refl _) (argsL := []) (rest := []) (lenOf own_pd6 rfl) rfl (by show 2 * 0 + _ ≤ _; exact Nat.le_of_eq rfl) (hb hby d8_32) (fun _ _ => ⟨rfl, e2, (by decide : 0 + 0 ≤ _), (by decide : 0 + 0 ≤ _)⟩)
  dsimp only [Pt.U, Pt.locs, Pt.cells, Pt.slots] at X3 l3 y3 z3 st3 hQ3
  subst l3 y3 z3
  obtain ⟨rfl, N3q, e3⟩ := hQ3
  have N3 := Fr.app N0 N3q
  refine OGo.of st3 ?_
  show OGo p e below _ (T3.setTop (mkF m 37 #[.val (.ref a0), .unset] [(.int (0 : Int32))]))
  refine OGo.by (fun _ k => XS.ifYes X3.here hx rfl (pc0 := 37) (pc' := 44) rfl (hb hby d8_37) rfl ((if0 _ _).trans (teq (by decide : (0 : Int32) = (0 : Int32))).1) (by decide) (by decide) k) ?_
  show OGo p e below _ (T3.setTop (mkF m 44 #[.val (.ref a0), .unset] []))
  refine OGo.by (fun _ k => XS.aloadN X3.here hx rfl (hb hby d8_44) rfl rfl k) ?_
  show OGo p e below _ (T3.setTop (mkF m 45 #[.val (.ref a0), .unset] [(.ref a0)]))
  obtain ⟨cq4, kq4, q4a, q4b, q4c⟩ := isOf hZ e3 E0
  obtain ⟨_, _, ⟨T4, L4, k4, n4⟩, -, X4, ⟨Lc4, hQ4, l4, y4, z4⟩, st4⟩ := X3.interfaceBack hx (xi := (⟨"java/util/Collection", "toArray", "()[Ljava/lang/Object;"⟩ : MethodName)) (y := (⟨"java/util/ArrayList", "toArray", "()[Ljava/lang/Object;"⟩ : MethodName)) hown (mvT hZ (hw _ (List.mem_of_getElem? (i := 173) rfl))) (mvT hZ (hw _ (List.mem_of_getElem? (i := 174) rfl))) (mvT hZ (hw _ (List.mem_of_getElem? (i := 175) rfl))) (mvT hZ (hw _ (List.mem_of_getElem? (i := 176) rfl))) (mvT hZ (hw _ (List.mem_of_getElem? (i := 177) rfl))) (mvT hZ (hw _ (List.mem_of_getElem? (i := 178) rfl))) (mvT hZ (hw _ (List.mem_of_getElem? (i := 179) rfl))) (mvT hZ (hw _ (List.mem_of_getElem? (i := 59) rfl))) (by decide) (backOf (W := 0) (rm_toa3 l Z av0 hw [] a0 d kd mr c0 c1 c2 h0 n0 Z0 E0 F0 F1 A_d E_d M_0 Ec0 Ec1 Ec2) hZ (hw _ (List.mem_of_getElem? (i := 180) rfl)) (hw _ (List.mem_of_getElem? (i := 2) rfl)) (by decide) (by decide)) q4a q4b q4c (g := (mkF m 45 #[.val (.ref a0), .unset] [(.ref a0)])) rfl (by rw [hml]; rfl) (Steps.refl _) (argsL := []) (rest := []) (lenOf own_pd3 rfl) rfl (by show 2 * 0 + _ ≤ _; exact Nat.le_of_eq rfl) (hb hby d8_45) (fun _ _ => ⟨rfl, e3, (by decide : 0 + 1 ≤ _), (by decide : 0 + 3 ≤ _)⟩)
  dsimp only [Pt.U, Pt.locs, Pt.cells, Pt.slots] at X4 l4 y4 z4 st4 hQ4
  subst l4 y4 z4
  obtain ⟨b_4, kb_4, rfl, N4q, Kc4, G4_0, G4_1, G4_2, G4_3, G4_4⟩ := hQ4
  have N4 := Fr.app N3 N4q
  have ne_a0_b_4 : a0 ≠ b_4 := Nat.ne_of_lt (Nat.lt_of_lt_of_le E0.lt G4_0)
  have ne_d_b_4 : d ≠ b_4 := Nat.ne_of_lt (Nat.lt_of_lt_of_le A_d.lt G4_0)
  have ne_c0_b_4 : c0 ≠ b_4 := Nat.ne_of_lt (Nat.lt_of_lt_of_le Ec0.lt G4_0)
  have ne_c1_b_4 : c1 ≠ b_4 := Nat.ne_of_lt (Nat.lt_of_lt_of_le Ec1.lt G4_0)
  have ne_c2_b_4 : c2 ≠ b_4 := Nat.ne_of_lt (Nat.lt_of_lt_of_le Ec2.lt G4_0)
  have g_b_4 : n0 ≤ b_4 := Nat.le_trans Z0 G4_0
  have sz_b_4 : h0.size ≤ b_4 := Nat.le_trans (Nat.le_refl _) G4_0
  have K4 : Keep h0 T4.heap [] := ((Keep.refl h0 [])).trans Kc4 (all0 (P := fun x => x ∈ ([] : List Addr) ∨ h0.size ≤ x))
  refine OGo.of st4 ?_
  show OGo p e below _ (T4.setTop (mkF m 50 #[.val (.ref a0), .unset] [(.ref b_4)]))
  have f6 : Exa Z T4.heap c0 "com/example/kept_inbox/keptinbox/UnreadConversation" := (Ec0.keep Kc4)
  have f7 : Exa Z T4.heap c1 "com/example/kept_inbox/keptinbox/UnreadConversation" := (Ec1.keep Kc4)
  have f8 : Exa Z T4.heap c2 "com/example/kept_inbox/keptinbox/UnreadConversation" := (Ec2.keep Kc4)
  obtain ⟨_, _, ⟨T5, L5, k5, n5⟩, -, X5, ⟨Lc5, hQ5, l5, y5, z5⟩, st5⟩ := Jvm.LawKit.callS X4 hx (y := (⟨"java/util/List", "of", "([Ljava/lang/Object;)Ljava/util/List;"⟩ : MethodName)) hown (mvT hZ (hw _ (List.mem_of_getElem? (i := 203) rfl))) (mvT hZ (hw _ (List.mem_of_getElem? (i := 204) rfl))) (mvT hZ (hw _ (List.mem_of_getElem? (i := 40) rfl))) (mvT hZ (hw _ (List.mem_of_getElem? (i := 205) rfl))) (by decide) (backOf (W := 0) (rm_lof3 l Z av0 hw [] b_4 kb_4 c0 c1 c2 T4.heap n0 (Nat.le_trans Z0 K4.1) G4_2 f6 f7 f8) hZ (hw _ (List.mem_of_getElem? (i := 205) rfl)) (hw _ (List.mem_of_getElem? (i := 40) rfl)) (by decide) (by decide)) (g := (mkF m 50 #[.val (.ref a0), .unset] [(.ref b_4)])) rfl (by rw [hml]; rfl) (argsL := [(.ref b_4)]) (rest := []) (lenOf own_pd12 rfl) rfl (by show 2 * 0 + _ ≤ _; exact Nat.le_of_eq rfl) (hb hby d8_50) (fun _ _ => ⟨rfl, rfl, (by decide : 1 + 2 ≤ _), (by decide : 3 + 5 ≤ _)⟩)
  dsimp only [Pt.U, Pt.locs, Pt.cells, Pt.slots] at X5 l5 y5 z5 st5 hQ5
  subst l5 y5 z5
  obtain ⟨b_5, t_5, kt_5, rfl, N5q, Kc5, G5_0, G5_1, G5_2, G5_3, G5_4, G5_5, G5_6, G5_7⟩ := hQ5
  have N5 := Fr.app N4 N5q
  have f9 : Exa Z T4.heap a0 "java/util/ArrayList" := (E0.keep Kc4)
  have ne_a0_b_5 : a0 ≠ b_5 := Nat.ne_of_lt (Nat.lt_of_lt_of_le f9.lt G5_0)
  have f10 : Arv Z T4.heap d kd (.object "java/lang/Object") (10 : Int32) [(.ref c0), (.ref c1), (.ref c2), .null, .null, .null, .null, .null, .null, .null] .null := (A_d.keep Kc4 nin0)
  have ne_d_b_5 : d ≠ b_5 := Nat.ne_of_lt (Nat.lt_of_lt_of_le f10.lt G5_0)
  have ne_c0_b_5 : c0 ≠ b_5 := Nat.ne_of_lt (Nat.lt_of_lt_of_le f6.lt G5_0)
  have ne_c1_b_5 : c1 ≠ b_5 := Nat.ne_of_lt (Nat.lt_of_lt_of_le f7.lt G5_0)
  have ne_c2_b_5 : c2 ≠ b_5 := Nat.ne_of_lt (Nat.lt_of_lt_of_le f8.lt G5_0)
  have ne_b_4_b_5 : b_4 ≠ b_5 := Nat.ne_of_lt (Nat.lt_of_lt_of_le G4_2.lt G5_0)
  have g_b_5 : n0 ≤ b_5 := Nat.le_trans (Nat.le_trans Z0 K4.1) G5_0
  have sz_b_5 : h0.size ≤ b_5 := Nat.le_trans K4.1 G5_0
  have ne_a0_t_5 : a0 ≠ t_5 := Nat.ne_of_lt (Nat.lt_of_lt_of_le f9.lt G5_2)
  have ne_d_t_5 : d ≠ t_5 := Nat.ne_of_lt (Nat.lt_of_lt_of_le f10.lt G5_2)
  have ne_c0_t_5 : c0 ≠ t_5 := Nat.ne_of_lt (Nat.lt_of_lt_of_le f6.lt G5_2)
  have ne_c1_t_5 : c1 ≠ t_5 := Nat.ne_of_lt (Nat.lt_of_lt_of_le f7.lt G5_2)
  have ne_c2_t_5 : c2 ≠ t_5 := Nat.ne_of_lt (Nat.lt_of_lt_of_le f8.lt G5_2)
  have ne_b_4_t_5 : b_4 ≠ t_5 := Nat.ne_of_lt (Nat.lt_of_lt_of_le G4_2.lt G5_2)
  have g_t_5 : n0 ≤ t_5 := Nat.le_trans (Nat.le_trans Z0 K4.1) G5_2
  have sz_t_5 : h0.size ≤ t_5 := Nat.le_trans K4.1 G5_2
  have K5 : Keep h0 T5.heap [] := (K4).trans Kc5 (all0 (P := fun x => x ∈ ([] : List Addr) ∨ h0.size ≤ x))
  refine OGo.by st5 ?_
  show OGo p e below _ (T5.setTop (mkF m 53 #[.val (.ref a0), .unset] [(.ref b_5)]))
  obtain ⟨fs, hr, hrun, hended, hW, hsame⟩ := X5.leave (v := some (.ref b_5)) (fun h => by rw [Bd.returns] at h; cases h)
  refine OGo.ret (retOut X5 hx Bd.returns rfl (Or.inr (Or.inr (Or.inr (Or.inr ⟨rfl, rfl, rfl⟩)))) (hb hby d8_53) hr) hrun hended ⟨_, _, rfl, ?_, ⟨_, rfl⟩, hW, hsame.mono (by decide) (by decide)⟩
  show Q_rm_lc3 Z a0 d kd mr c0 c1 c2 h0 n0 _ T5.heap _
  exact ⟨b_5, t_5, kt_5, rfl, N5, K5, sz_b_5, g_b_5, sz_t_5, g_t_5, G5_4, G5_5, G5_6, G5_7⟩
theorem ef_rm_co3 (m : MethodId) (a0 : Addr) : entryFrame m #[(.ref a0)] 1 = mkF m 0 #[.val (.ref a0)] [] := by first | (simp [entryFrame, mkF, argsToLocals, Value.category]; done) | rfl
def Q_rm_co3 (Z : State) (a0 : Addr) (d : Addr) (kd : ClassId) (mr : Addr) (c0 : Addr) (c1 : Addr) (c2 : Addr) (h0 : Heap) (n0 : Nat) (v : Option Value) (h : Heap) (L : List Loc) : Prop := ∃ b : Addr, ∃ t : Addr, ∃ kt : ClassId, v = some (.ref b) ∧ Fr n0 L ∧ Keep h0 h [] ∧ (h0.size ≤ b) ∧ (n0 ≤ b) ∧ (h0.size ≤ t) ∧ (n0 ≤ t) ∧ (t ≠ b) ∧ (Exa Z h b "java/util/ImmutableCollections$ListN") ∧ (Fld Z h b "java/util/ImmutableCollections$ListN" "elements" "[Ljava/lang/Object;" (.ref t)) ∧ (Arv Z h t kt (.object "java/lang/Object") (3 : Int32) [(.ref c0), (.ref c1), (.ref c2)] .null)
set_option maxRecDepth 65536 in
set_option maxHeartbeats 40000000 in
theorem rm_co3 (l : Launch) (Z : State) (av0 : Array Value) (hw : ∀ d ∈ tables_1, d.before av0 Z = true) (ws : List Jvm.Cond) (a0 : Addr) (d : Addr) (kd : ClassId) (mr : Addr) (c0 : Addr) (c1 : Addr) (c2 : Addr) (h0 : Heap) (n0 : Nat) (Z0 : n0 ≤ h0.size) (E0 : Exa Z h0 a0 "java/util/ArrayList") (F0 : Fld Z h0 a0 "java/util/ArrayList" "size" "I" (.int (3 : Int32))) (F1 : Fld Z h0 a0 "java/util/ArrayList" "elementData" "[Ljava/lang/Object;" (.ref d)) (A_d : Arv Z h0 d kd (.object "java/lang/Object") (10 : Int32) [(.ref c0), (.ref c1), (.ref c2), .null, .null, .null, .null, .null, .null, .null] .null) (E_d : Exa Z h0 d "[Ljava/lang/Object;") (M_0 : Mir Z "[Ljava/lang/Object;" mr) (Ec0 : Exa Z h0 c0 "com/example/kept_inbox/keptinbox/UnreadConversation") (Ec1 : Exa Z h0 c1 "com/example/kept_inbox/keptinbox/UnreadConversation") (Ec2 : Exa Z h0 c2 "com/example/kept_inbox/keptinbox/UnreadConversation") :
    MetFree l (⟨"java/util/List", "copyOf", "(Ljava/util/Collection;)Ljava/util/List;"⟩ : MethodName) (head1 (Jvm.Cond.code (⟨"java/util/List", "copyOf", "(Ljava/util/Collection;)Ljava/util/List;"⟩ : MethodName) jdk_40_method_48_code 1 (some (.object "java/util/List")) :: ws) ({ frames := 8, cells := 3, slots := 8, locals := 103 } : Room)) (fun a U => a = #[(.ref a0)] ∧ Z.Warmed39 U.vm ∧ U.heap = h0) (fun _ _ _ _ _ => True) (fun _ U o U' => ∃ v L, o = .returned v ∧ Q_rm_co3 Z a0 d kd mr c0 c1 c2 h0 n0 v U'.heap L ∧ FrameEnd U o U' L ({ frames := 8, cells := 3, slots := 8, locals := 103 } : Room).cells ({ frames := 8, cells := 3, slots := 8, locals := 103 } : Room).slots) := by
  refine MetFree.of_bodySF (plainFor_of_name own_pn7) hisR ?_
  intro p e s m args below meth c s₁ Bd hml0 hP hK
  obtain ⟨rfl, hZ, hh⟩ := hP
  have hx := Bd.exec
  have hby := Bd.bytes
  have hml : c.maxLocals = 1 := hml0
  have hown : s.vm.findClass "java/util/List" = some m.cls := findClass_of_methodNamed Bd.named
  have hnm := (name_of_methodNamed Bd.named Bd.method).1
  have X0 : Stand p l e ({ frames := 8, cells := 3, slots := 8, locals := 103 } : Room) s m #[(.ref a0)] below meth c s₁ [] 0 0 := Stand.of_body Bd
  have e0 : s₁.heap = h0 := by rw [← hh, Bd.state]; rfl
  have N0 := Fr.nil n0
  refine OGo.by (P := fun U' o => ∃ v L, o = .returned v ∧ Q_rm_co3 Z a0 d kd mr c0 c1 c2 h0 n0 v U'.heap L ∧ FrameEnd s o U' L ({ frames := 8, cells := 3, slots := 8, locals := 103 } : Room).cells ({ frames := 8, cells := 3, slots := 8, locals := 103 } : Room).slots) (fun T_ k_ => castTop (ef_rm_co3 m a0) k_) ?_
  show OGo p e below _ (s₁.setTop (mkF m 0 #[.val (.ref a0)] []))
  refine OGo.by (fun _ k => XS.aloadN X0.here hx rfl (hb hby d7_0) rfl rfl k) ?_
  show OGo p e below _ (s₁.setTop (mkF m 1 #[.val (.ref a0)] [(.ref a0)]))
  obtain ⟨_, _, ⟨T1, L1, k1, n1⟩, -, X1, ⟨Lc1, hQ1, l1, y1, z1⟩, st1⟩ := Jvm.LawKit.callS X0 hx (y := (⟨"java/util/ImmutableCollections", "listCopy", "(Ljava/util/Collection;)Ljava/util/List;"⟩ : MethodName)) hown (mvT hZ (hw _ (List.mem_of_getElem? (i := 42) rfl))) (mvT hZ (hw _ (List.mem_of_getElem? (i := 43) rfl))) (mvT hZ (hw _ (List.mem_of_getElem? (i := 44) rfl))) (mvT hZ (hw _ (List.mem_of_getElem? (i := 45) rfl))) (by decide) (backOf (W := 0) (rm_lc3 l Z av0 hw [] a0 d kd mr c0 c1 c2 h0 n0 Z0 E0 F0 F1 A_d E_d M_0 Ec0 Ec1 Ec2) hZ (hw _ (List.mem_of_getElem? (i := 45) rfl)) (hw _ (List.mem_of_getElem? (i := 44) rfl)) (by decide) (by decide)) (g := (mkF m 1 #[.val (.ref a0)] [(.ref a0)])) rfl (by rw [hml]; rfl) (argsL := [(.ref a0)]) (rest := []) (lenOf own_pd8 rfl) rfl (by show 2 * 0 + _ ≤ _; exact Nat.le_of_eq rfl) (hb hby d7_1) (fun _ _ => ⟨rfl, e0, (by decide : 0 + 3 ≤ _), (by decide : 0 + 8 ≤ _)⟩)
  dsimp only [Pt.U, Pt.locs, Pt.cells, Pt.slots] at X1 l1 y1 z1 st1 hQ1
  subst l1 y1 z1
  obtain ⟨b_1, t_1, kt_1, rfl, N1q, Kc1, G1_0, G1_1, G1_2, G1_3, G1_4, G1_5, G1_6, G1_7⟩ := hQ1
  have N1 := Fr.app N0 N1q
  have ne_a0_b_1 : a0 ≠ b_1 := Nat.ne_of_lt (Nat.lt_of_lt_of_le E0.lt G1_0)
  have ne_d_b_1 : d ≠ b_1 := Nat.ne_of_lt (Nat.lt_of_lt_of_le A_d.lt G1_0)
  have ne_c0_b_1 : c0 ≠ b_1 := Nat.ne_of_lt (Nat.lt_of_lt_of_le Ec0.lt G1_0)
  have ne_c1_b_1 : c1 ≠ b_1 := Nat.ne_of_lt (Nat.lt_of_lt_of_le Ec1.lt G1_0)
  have ne_c2_b_1 : c2 ≠ b_1 := Nat.ne_of_lt (Nat.lt_of_lt_of_le Ec2.lt G1_0)
  have g_b_1 : n0 ≤ b_1 := Nat.le_trans Z0 G1_0
  have sz_b_1 : h0.size ≤ b_1 := Nat.le_trans (Nat.le_refl _) G1_0
  have ne_a0_t_1 : a0 ≠ t_1 := Nat.ne_of_lt (Nat.lt_of_lt_of_le E0.lt G1_2)
  have ne_d_t_1 : d ≠ t_1 := Nat.ne_of_lt (Nat.lt_of_lt_of_le A_d.lt G1_2)
  have ne_c0_t_1 : c0 ≠ t_1 := Nat.ne_of_lt (Nat.lt_of_lt_of_le Ec0.lt G1_2)
  have ne_c1_t_1 : c1 ≠ t_1 := Nat.ne_of_lt (Nat.lt_of_lt_of_le Ec1.lt G1_2)
  have ne_c2_t_1 : c2 ≠ t_1 := Nat.ne_of_lt (Nat.lt_of_lt_of_le Ec2.lt G1_2)
  have g_t_1 : n0 ≤ t_1 := Nat.le_trans Z0 G1_2
  have sz_t_1 : h0.size ≤ t_1 := Nat.le_trans (Nat.le_refl _) G1_2
  have K1 : Keep h0 T1.heap [] := ((Keep.refl h0 [])).trans Kc1 (all0 (P := fun x => x ∈ ([] : List Addr) ∨ h0.size ≤ x))
  refine OGo.by st1 ?_
  show OGo p e below _ (T1.setTop (mkF m 4 #[.val (.ref a0)] [(.ref b_1)]))
  obtain ⟨fs, hr, hrun, hended, hW, hsame⟩ := X1.leave (v := some (.ref b_1)) (fun h => by rw [Bd.returns] at h; cases h)
  refine OGo.ret (retOut X1 hx Bd.returns rfl (Or.inr (Or.inr (Or.inr (Or.inr ⟨rfl, rfl, rfl⟩)))) (hb hby d7_4) hr) hrun hended ⟨_, _, rfl, ?_, ⟨_, rfl⟩, hW, hsame.mono (by decide) (by decide)⟩
  show Q_rm_co3 Z a0 d kd mr c0 c1 c2 h0 n0 _ T1.heap _
  exact ⟨b_1, t_1, kt_1, rfl, N1, K1, sz_b_1, g_b_1, sz_t_1, g_t_1, G1_4, G1_5, G1_6, G1_7⟩
theorem ef_rm_un3 (m : MethodId) (a0 : Addr) (a1 : Addr) : entryFrame m #[(.ref a0), (.ref a1)] 2 = mkF m 0 #[.val (.ref a0), .val (.ref a1)] [] := by first | (simp [entryFrame, mkF, argsToLocals, Value.category]; done) | rfl
def Q_rm_un3 (Z : State) (a0 : Addr) (a1 : Addr) (d : Addr) (kd : ClassId) (mr : Addr) (c0 : Addr) (c1 : Addr) (c2 : Addr) (h0 : Heap) (n0 : Nat) (v : Option Value) (h : Heap) (L : List Loc) : Prop := ∃ b : Addr, ∃ t : Addr, ∃ kt : ClassId, v = none ∧ Fr n0 L ∧ Keep h0 h [a0] ∧ (h0.size ≤ b) ∧ (n0 ≤ b) ∧ (h0.size ≤ t) ∧ (n0 ≤ t) ∧ (t ≠ b) ∧ (Exa Z h b "java/util/ImmutableCollections$ListN") ∧ (Fld Z h b "java/util/ImmutableCollections$ListN" "elements" "[Ljava/lang/Object;" (.ref t)) ∧ (Arv Z h t kt (.object "java/lang/Object") (3 : Int32) [(.ref c0), (.ref c1), (.ref c2)] .null) ∧ (Exa Z h a0 "com/example/kept_inbox/keptinbox/Unread") ∧ (Fld Z h a0 "com/example/kept_inbox/keptinbox/Unread" "conversations" "Ljava/util/List;" (.ref b))
set_option maxRecDepth 65536 in
set_option maxHeartbeats 40000000 in
theorem rm_un3 (l : Launch) (Z : State) (av0 : Array Value) (hw : ∀ d ∈ tables_1, d.before av0 Z = true) (ws : List Jvm.Cond) (a0 : Addr) (a1 : Addr) (d : Addr) (kd : ClassId) (mr : Addr) (c0 : Addr) (c1 : Addr) (c2 : Addr) (h0 : Heap) (n0 : Nat) (Z0 : n0 ≤ h0.size) (E0 : Exa Z h0 a1 "java/util/ArrayList") (F0 : Fld Z h0 a1 "java/util/ArrayList" "size" "I" (.int (3 : Int32))) (F1 : Fld Z h0 a1 "java/util/ArrayList" "elementData" "[Ljava/lang/Object;" (.ref d)) (A_d : Arv Z h0 d kd (.object "java/lang/Object") (10 : Int32) [(.ref c0), (.ref c1), (.ref c2), .null, .null, .null, .null, .null, .null, .null] .null) (E_d : Exa Z h0 d "[Ljava/lang/Object;") (M_0 : Mir Z "[Ljava/lang/Object;" mr) (Ec0 : Exa Z h0 c0 "com/example/kept_inbox/keptinbox/UnreadConversation") (Ec1 : Exa Z h0 c1 "com/example/kept_inbox/keptinbox/UnreadConversation") (Ec2 : Exa Z h0 c2 "com/example/kept_inbox/keptinbox/UnreadConversation") (E1 : Exa Z h0 a0 "com/example/kept_inbox/keptinbox/Unread") (F9 : Fld Z h0 a0 "com/example/kept_inbox/keptinbox/Unread" "conversations" "Ljava/util/List;" .null) (g_a0 : n0 ≤ a0) :
    MetFree l (⟨"com/example/kept_inbox/keptinbox/Unread", "<init>", "(Ljava/util/List;)V"⟩ : MethodName) (head1 (Jvm.Cond.code (⟨"com/example/kept_inbox/keptinbox/Unread", "<init>", "(Ljava/util/List;)V"⟩ : MethodName) prog_7_method_1_code 2 none :: ws) ({ frames := 9, cells := 3, slots := 8, locals := 115 } : Room)) (fun a U => a = #[(.ref a0), (.ref a1)] ∧ Z.Warmed39 U.vm ∧ U.heap = h0) (fun _ _ _ _ _ => True) (fun _ U o U' => ∃ v L, o = .returned v ∧ Q_rm_un3 Z a0 a1 d kd mr c0 c1 c2 h0 n0 v U'.heap L ∧ FrameEnd U o U' L ({ frames := 9, cells := 3, slots := 8, locals := 115 } : Room).cells ({ frames := 9, cells := 3, slots := 8, locals := 115 } : Room).slots) := by
  refine MetFree.of_bodySF (plainFor_of_name own_pn5) hisR ?_
  intro p e s m args below meth c s₁ Bd hml0 hP hK
  obtain ⟨rfl, hZ, hh⟩ := hP
  have hx := Bd.exec
  have hby := Bd.bytes
  have hml : c.maxLocals = 2 := hml0
  have hown : s.vm.findClass "com/example/kept_inbox/keptinbox/Unread" = some m.cls := findClass_of_methodNamed Bd.named
  have hnm := (name_of_methodNamed Bd.named Bd.method).1
  have X0 : Stand p l e ({ frames := 9, cells := 3, slots := 8, locals := 115 } : Room) s m #[(.ref a0), (.ref a1)] below meth c s₁ [] 0 0 := Stand.of_body Bd
  have e0 : s₁.heap = h0 := by rw [← hh, Bd.state]; rfl
  have N0 := Fr.nil n0
  refine OGo.by (P := fun U' o => ∃ v L, o = .returned v ∧ Q_rm_un3 Z a0 a1 d kd mr c0 c1 c2 h0 n0 v U'.heap L ∧ FrameEnd s o U' L ({ frames := 9, cells := 3, slots := 8, locals := 115 } : Room).cells ({ frames := 9, cells := 3, slots := 8, locals := 115 } : Room).slots) (fun T_ k_ => castTop (ef_rm_un3 m a0 a1) k_) ?_
  show OGo p e below _ (s₁.setTop (mkF m 0 #[.val (.ref a0), .val (.ref a1)] []))
  refine OGo.by (fun _ k => XS.aloadN X0.here hx rfl (hb hby d5_0) rfl rfl k) ?_
  show OGo p e below _ (s₁.setTop (mkF m 1 #[.val (.ref a0), .val (.ref a1)] [(.ref a0)]))
  obtain ⟨_, _, ⟨T1, L1, k1, n1⟩, -, X1, ⟨Lc1, hQ1, l1, y1, z1⟩, st1⟩ := X0.specialBack hx (y := (⟨"java/lang/Record", "<init>", "()V"⟩ : MethodName)) rfl hown (mvT hZ (hw _ (List.mem_of_getElem? (i := 32) rfl))) (mvT hZ (hw _ (List.mem_of_getElem? (i := 33) rfl))) (mvT hZ (hw _ (List.mem_of_getElem? (i := 36) rfl))) (by decide) (backOf (W := 0) (rm6 l Z av0 hw [] a0 h0 n0 Z0) hZ (hw _ (List.mem_of_getElem? (i := 36) rfl)) (hw _ (List.mem_of_getElem? (i := 35) rfl)) (by decide) (by decide)) (g := (mkF m 1 #[.val (.ref a0), .val (.ref a1)] [(.ref a0)])) rfl (by rw [hml]; rfl) (Steps.refl _) (a := a0) (argsL := []) (rest := []) (lenOf own_pd0 rfl) rfl (by show 2 * 0 + _ ≤ _; exact Nat.le_of_eq rfl) (hb hby d5_1) (fun _ _ => ⟨rfl, e0, (by decide : 0 + 0 ≤ _), (by decide : 0 + 0 ≤ _)⟩)
  dsimp only [Pt.U, Pt.locs, Pt.cells, Pt.slots] at X1 l1 y1 z1 st1 hQ1
  subst l1 y1 z1
  obtain ⟨rfl, N1q, e1⟩ := hQ1
  have N1 := Fr.app N0 N1q
  refine OGo.of st1 ?_
  show OGo p e below _ (T1.setTop (mkF m 4 #[.val (.ref a0), .val (.ref a1)] []))
  refine OGo.by (fun _ k => XS.aloadN X1.here hx rfl (hb hby d5_4) rfl rfl k) ?_
  show OGo p e below _ (T1.setTop (mkF m 5 #[.val (.ref a0), .val (.ref a1)] [(.ref a1)]))
  obtain ⟨_, _, ⟨T2, L2, k2, n2⟩, -, X2, ⟨Lc2, hQ2, l2, y2, z2⟩, st2⟩ := Jvm.LawKit.callS X1 hx (y := (⟨"java/util/List", "copyOf", "(Ljava/util/Collection;)Ljava/util/List;"⟩ : MethodName)) hown (mvT hZ (hw _ (List.mem_of_getElem? (i := 38) rfl))) (mvT hZ (hw _ (List.mem_of_getElem? (i := 39) rfl))) (mvT hZ (hw _ (List.mem_of_getElem? (i := 40) rfl))) (mvT hZ (hw _ (List.mem_of_getElem? (i := 41) rfl))) (by decide) (backOf (W := 0) (rm_co3 l Z av0 hw [] a1 d kd mr c0 c1 c2 h0 n0 Z0 E0 F0 F1 A_d E_d M_0 Ec0 Ec1 Ec2) hZ (hw _ (List.mem_of_getElem? (i := 41) rfl)) (hw _ (List.mem_of_getElem? (i := 40) rfl)) (by decide) (by decide)) (g := (mkF m 5 #[.val (.ref a0), .val (.ref a1)] [(.ref a1)])) rfl (by rw [hml]; rfl) (argsL := [(.ref a1)]) (rest := []) (lenOf own_pd8 rfl) rfl (by show 2 * 0 + _ ≤ _; exact Nat.le_of_eq rfl) (hb hby d5_5) (fun _ _ => ⟨rfl, e1, (by decide : 0 + 3 ≤ _), (by decide : 0 + 8 ≤ _)⟩)
  dsimp only [Pt.U, Pt.locs, Pt.cells, Pt.slots] at X2 l2 y2 z2 st2 hQ2
  subst l2 y2 z2
  obtain ⟨b_2, t_2, kt_2, rfl, N2q, Kc2, G2_0, G2_1, G2_2, G2_3, G2_4, G2_5, G2_6, G2_7⟩ := hQ2
  have N2 := Fr.app N1 N2q
  have ne_a1_b_2 : a1 ≠ b_2 := Nat.ne_of_lt (Nat.lt_of_lt_of_le E0.lt G2_0)
  have ne_d_b_2 : d ≠ b_2 := Nat.ne_of_lt (Nat.lt_of_lt_of_le A_d.lt G2_0)
  have ne_c0_b_2 : c0 ≠ b_2 := Nat.ne_of_lt (Nat.lt_of_lt_of_le Ec0.lt G2_0)
  have ne_c1_b_2 : c1 ≠ b_2 := Nat.ne_of_lt (Nat.lt_of_lt_of_le Ec1.lt G2_0)
  have ne_c2_b_2 : c2 ≠ b_2 := Nat.ne_of_lt (Nat.lt_of_lt_of_le Ec2.lt G2_0)
  have ne_a0_b_2 : a0 ≠ b_2 := Nat.ne_of_lt (Nat.lt_of_lt_of_le E1.lt G2_0)
  have g_b_2 : n0 ≤ b_2 := Nat.le_trans Z0 G2_0
  have sz_b_2 : h0.size ≤ b_2 := Nat.le_trans (Nat.le_refl _) G2_0
  have ne_a1_t_2 : a1 ≠ t_2 := Nat.ne_of_lt (Nat.lt_of_lt_of_le E0.lt G2_2)
  have ne_d_t_2 : d ≠ t_2 := Nat.ne_of_lt (Nat.lt_of_lt_of_le A_d.lt G2_2)
  have ne_c0_t_2 : c0 ≠ t_2 := Nat.ne_of_lt (Nat.lt_of_lt_of_le Ec0.lt G2_2)
  have ne_c1_t_2 : c1 ≠ t_2 := Nat.ne_of_lt (Nat.lt_of_lt_of_le Ec1.lt G2_2)
  have ne_c2_t_2 : c2 ≠ t_2 := Nat.ne_of_lt (Nat.lt_of_lt_of_le Ec2.lt G2_2)
  have ne_a0_t_2 : a0 ≠ t_2 := Nat.ne_of_lt (Nat.lt_of_lt_of_le E1.lt G2_2)
  have g_t_2 : n0 ≤ t_2 := Nat.le_trans Z0 G2_2
  have sz_t_2 : h0.size ≤ t_2 := Nat.le_trans (Nat.le_refl _) G2_2
  have K2 : Keep h0 T2.heap [a0] := ((Keep.refl h0 [a0])).trans Kc2 (all0 (P := fun x => x ∈ ([a0] : List Addr) ∨ h0.size ≤ x))
  refine OGo.by st2 ?_
  show OGo p e below _ (T2.setTop (mkF m 8 #[.val (.ref a0), .val (.ref a1)] [(.ref b_2)]))
  refine OGo.by (fun _ k => XS.astoreN X2.here hx rfl (hb hby d5_8) rfl rfl (l' := #[.val (.ref a0), .val (.ref b_2)]) rfl k) ?_
  show OGo p e below _ (T2.setTop (mkF m 9 #[.val (.ref a0), .val (.ref b_2)] []))
  refine OGo.by (fun _ k => XS.aloadN X2.here hx rfl (hb hby d5_9) rfl rfl k) ?_
  show OGo p e below _ (T2.setTop (mkF m 10 #[.val (.ref a0), .val (.ref b_2)] [(.ref a0)]))
  refine OGo.by (fun _ k => XS.aloadN X2.here hx rfl (hb hby d5_10) rfl rfl k) ?_
  show OGo p e below _ (T2.setTop (mkF m 11 #[.val (.ref a0), .val (.ref b_2)] [(.ref b_2), (.ref a0)]))
  have f3 : Exa Z T2.heap a0 "com/example/kept_inbox/keptinbox/Unread" := (E1.keep Kc2)
  have f4 : Fld Z T2.heap a0 "com/example/kept_inbox/keptinbox/Unread" "conversations" "Ljava/util/List;" .null := (F9.keep Kc2 nin0)
  obtain ⟨T5, h5, X5, e5, W5, st5⟩ := putF X2 hx hZ hown (host := "") (Or.inl (hw _ (List.mem_of_getElem? (i := 67) rfl))) Via.refl rfl f4 f3 (Or.inr ⟨(hw _ (List.mem_of_getElem? (i := 68) rfl)), rfl, hnm⟩) (hw _ (List.mem_of_getElem? (i := 27) rfl)) (ty := (.object "java/util/List")) (by decide) rfl rfl (g := (mkF m 11 #[.val (.ref a0), .val (.ref b_2)] [(.ref b_2), (.ref a0)])) rfl rfl (hb hby d5_11)
  refine OGo.by st5 ?_
  have Fw5 := f4.same W5
  have N5 := Fr.snoc X5 N2 g_a0
  have K5 : Keep h0 h5 [a0] := (K2).wr W5 (Or.inl (List.mem_of_getElem? (i := 0) rfl))
  show OGo p e below _ (T5.setTop (mkF m 14 #[.val (.ref a0), .val (.ref b_2)] []))
  obtain ⟨fs, hr, hrun, hended, hW, hsame⟩ := X5.leave (v := none) (fun _ => rfl)
  refine OGo.ret (X5.returnOut hx Bd.returns (hb hby d5_14) hr) hrun hended ⟨_, _, rfl, ?_, ⟨_, rfl⟩, hW, hsame.mono (by decide) (by decide)⟩
  show Q_rm_un3 Z a0 a1 d kd mr c0 c1 c2 h0 n0 _ T5.heap _
  rw [e5]
  have f6 : Exa Z h5 b_2 "java/util/ImmutableCollections$ListN" := (G2_5.wr W5)
  have f7 : Fld Z h5 b_2 "java/util/ImmutableCollections$ListN" "elements" "[Ljava/lang/Object;" (.ref t_2) := (G2_6.other W5 (Or.inl (Ne.symm ne_a0_b_2)))
  have f8 : Arv Z h5 t_2 kt_2 (.object "java/lang/Object") (3 : Int32) [(.ref c0), (.ref c1), (.ref c2)] .null := (G2_7.other W5 (Ne.symm ne_a0_t_2))
  have f9 : Exa Z h5 a0 "com/example/kept_inbox/keptinbox/Unread" := (f3.wr W5)
  exact ⟨b_2, t_2, kt_2, rfl, N5, K5, sz_b_2, g_b_2, sz_t_2, g_t_2, G2_4, f6, f7, f8, f9, Fw5⟩
theorem d14_0 : decode jdk_53_method_1_code 0 = .ok (.aload_n 0, 1) := by decide +kernel
theorem d14_1 : decode jdk_53_method_1_code 1 = .ok (.invokespecial 1, 3) := by decide +kernel
theorem d14_4 : decode jdk_53_method_1_code 4 = .ok (.aload_n 0, 1) := by decide +kernel
theorem d14_5 : decode jdk_53_method_1_code 5 = .ok (.aload_n 1, 1) := by decide +kernel
theorem d14_6 : decode jdk_53_method_1_code 6 = .ok (.putfield 7, 3) := by decide +kernel
theorem d14_9 : decode jdk_53_method_1_code 9 = .ok (.aload_n 0, 1) := by decide +kernel
theorem d14_10 : decode jdk_53_method_1_code 10 = .ok (.iload_n 2, 1) := by decide +kernel
theorem d14_11 : decode jdk_53_method_1_code 11 = .ok (.putfield 13, 3) := by decide +kernel
theorem d14_14 : decode jdk_53_method_1_code 14 = .ok (.aload_n 0, 1) := by decide +kernel
theorem d14_15 : decode jdk_53_method_1_code 15 = .ok (.iconst 0, 1) := by decide +kernel
theorem d14_16 : decode jdk_53_method_1_code 16 = .ok (.putfield 17, 3) := by decide +kernel
theorem d14_19 : decode jdk_53_method_1_code 19 = .ok (.aload_n 0, 1) := by decide +kernel
theorem d14_20 : decode jdk_53_method_1_code 20 = .ok (.iconst 0, 1) := by decide +kernel
theorem d14_21 : decode jdk_53_method_1_code 21 = .ok (.putfield 20, 3) := by decide +kernel
theorem d14_24 : decode jdk_53_method_1_code 24 = .ok (.return_, 1) := by decide +kernel
theorem own_pn14 : plainName "java/util/ImmutableCollections$ListItr" = true := by first | (simp [plainName, overriddenIn]; done) | decide +kernel
theorem ef_rm14 (m : MethodId) (a0 : Addr) (a1 : Addr) (p2 : Int32) : entryFrame m #[(.ref a0), (.ref a1), (.int p2)] 3 = mkF m 0 #[.val (.ref a0), .val (.ref a1), .val (.int p2)] [] := by first | (simp [entryFrame, mkF, argsToLocals, Value.category]; done) | rfl
def Q_rm14 (Z : State) (a0 : Addr) (a1 : Addr) (p2 : Int32) (h0 : Heap) (n0 : Nat) (v : Option Value) (h : Heap) (L : List Loc) : Prop := v = none ∧ Fr n0 L ∧ Keep h0 h [a0] ∧ (Exa Z h a0 "java/util/ImmutableCollections$ListItr") ∧ (Fld Z h a0 "java/util/ImmutableCollections$ListItr" "list" "Ljava/util/List;" (.ref a1)) ∧ (Fld Z h a0 "java/util/ImmutableCollections$ListItr" "size" "I" (.int p2)) ∧ (Fld Z h a0 "java/util/ImmutableCollections$ListItr" "cursor" "I" (.int (0 : Int32)))
set_option maxRecDepth 65536 in
set_option maxHeartbeats 40000000 in
theorem rm14 (l : Launch) (Z : State) (av0 : Array Value) (hw : ∀ d ∈ tables_1, d.before av0 Z = true) (ws : List Jvm.Cond) (a0 : Addr) (a1 : Addr) (p2 : Int32) (h0 : Heap) (n0 : Nat) (Z0 : n0 ≤ h0.size) (E0 : Exa Z h0 a0 "java/util/ImmutableCollections$ListItr") (F0 : Fld Z h0 a0 "java/util/ImmutableCollections$ListItr" "list" "Ljava/util/List;" .null) (F1 : Fld Z h0 a0 "java/util/ImmutableCollections$ListItr" "size" "I" (.int (0 : Int32))) (F2 : Fld Z h0 a0 "java/util/ImmutableCollections$ListItr" "cursor" "I" (.int (0 : Int32))) (F3 : Fld Z h0 a0 "java/util/ImmutableCollections$ListItr" "isListIterator" "Z" (.int (0 : Int32))) (g_a0 : n0 ≤ a0) :
    MetFree l (⟨"java/util/ImmutableCollections$ListItr", "<init>", "(Ljava/util/List;I)V"⟩ : MethodName) (head1 (Jvm.Cond.code (⟨"java/util/ImmutableCollections$ListItr", "<init>", "(Ljava/util/List;I)V"⟩ : MethodName) jdk_53_method_1_code 3 none :: ws) ({ frames := 1, cells := 0, slots := 0, locals := 12 } : Room)) (fun a U => a = #[(.ref a0), (.ref a1), (.int p2)] ∧ Z.Warmed39 U.vm ∧ U.heap = h0) (fun _ _ _ _ _ => True) (fun _ U o U' => ∃ v L, o = .returned v ∧ Q_rm14 Z a0 a1 p2 h0 n0 v U'.heap L ∧ FrameEnd U o U' L ({ frames := 1, cells := 0, slots := 0, locals := 12 } : Room).cells ({ frames := 1, cells := 0, slots := 0, locals := 12 } : Room).slots) := by
  refine MetFree.of_bodySF (plainFor_of_name own_pn14) hisR ?_
  intro p e s m args below meth c s₁ Bd hml0 hP hK
  obtain ⟨rfl, hZ, hh⟩ := hP
  have hx := Bd.exec
  have hby := Bd.bytes
  have hml : c.maxLocals = 3 := hml0
  have hown : s.vm.findClass "java/util/ImmutableCollections$ListItr" = some m.cls := findClass_of_methodNamed Bd.named
  have hnm := (name_of_methodNamed Bd.named Bd.method).1
  have X0 : Stand p l e ({ frames := 1, cells := 0, slots := 0, locals := 12 } : Room) s m #[(.ref a0), (.ref a1), (.int p2)] below meth c s₁ [] 0 0 := Stand.of_body Bd
  have e0 : s₁.heap = h0 := by rw [← hh, Bd.state]; rfl
  have N0 := Fr.nil n0
  refine OGo.by (P := fun U' o => ∃ v L, o = .returned v ∧ Q_rm14 Z a0 a1 p2 h0 n0 v U'.heap L ∧ FrameEnd s o U' L ({ frames := 1, cells := 0, slots := 0, locals := 12 } : Room).cells ({ frames := 1, cells := 0, slots := 0, locals := 12 } : Room).slots) (fun T_ k_ => castTop (ef_rm14 m a0 a1 p2) k_) ?_
  show OGo p e below _ (s₁.setTop (mkF m 0 #[.val (.ref a0), .val (.ref a1), .val (.int p2)] []))
  refine OGo.by (fun _ k => XS.aloadN X0.here hx rfl (hb hby d14_0) rfl rfl k) ?_
  show OGo p e below _ (s₁.setTop (mkF m 1 #[.val (.ref a0), .val (.ref a1), .val (.int p2)] [(.ref a0)]))
  obtain ⟨T1, X1, e1, st1⟩ := initO X0 hx hZ hown (hw _ (List.mem_of_getElem? (i := 100) rfl)) (hw _ (List.mem_of_getElem? (i := 19) rfl)) (hw _ (List.mem_of_getElem? (i := 20) rfl)) e0 (g := (mkF m 1 #[.val (.ref a0), .val (.ref a1), .val (.int p2)] [(.ref a0)])) rfl (by rw [hml]; rfl) rfl (hb hby d14_1) (by decide) (W := 0) (by show 2 * 0 + _ ≤ _; exact Nat.le_of_eq rfl) (by decide)
  refine OGo.by st1 ?_
  show OGo p e below _ (T1.setTop (mkF m 4 #[.val (.ref a0), .val (.ref a1), .val (.int p2)] []))
  refine OGo.by (fun _ k => XS.aloadN X1.here hx rfl (hb hby d14_4) rfl rfl k) ?_
  show OGo p e below _ (T1.setTop (mkF m 5 #[.val (.ref a0), .val (.ref a1), .val (.int p2)] [(.ref a0)]))
  refine OGo.by (fun _ k => XS.aloadN X1.here hx rfl (hb hby d14_5) rfl rfl k) ?_
  show OGo p e below _ (T1.setTop (mkF m 6 #[.val (.ref a0), .val (.ref a1), .val (.int p2)] [(.ref a1), (.ref a0)]))
  obtain ⟨T2, h2, X2, e2, W2, st2⟩ := putF X1 hx hZ hown (host := "") (Or.inl (hw _ (List.mem_of_getElem? (i := 101) rfl))) Via.refl e1 F0 E0 (Or.inr ⟨(hw _ (List.mem_of_getElem? (i := 102) rfl)), rfl, hnm⟩) (hw _ (List.mem_of_getElem? (i := 85) rfl)) (ty := (.object "java/util/List")) (by decide) rfl rfl (g := (mkF m 6 #[.val (.ref a0), .val (.ref a1), .val (.int p2)] [(.ref a1), (.ref a0)])) rfl rfl (hb hby d14_6)
  refine OGo.by st2 ?_
  have Fw2 := F0.same W2
  have N2 := Fr.snoc X2 N0 g_a0
  have K2 : Keep h0 h2 [a0] := ((Keep.refl h0 [a0])).wr W2 (Or.inl (List.mem_of_getElem? (i := 0) rfl))
  show OGo p e below _ (T2.setTop (mkF m 9 #[.val (.ref a0), .val (.ref a1), .val (.int p2)] []))
  refine OGo.by (fun _ k => XS.aloadN X2.here hx rfl (hb hby d14_9) rfl rfl k) ?_
  show OGo p e below _ (T2.setTop (mkF m 10 #[.val (.ref a0), .val (.ref a1), .val (.int p2)] [(.ref a0)]))
  refine OGo.by (fun _ k => XS.iloadN X2.here hx rfl (hb hby d14_10) rfl k) ?_
  show OGo p e below _ (T2.setTop (mkF m 11 #[.val (.ref a0), .val (.ref a1), .val (.int p2)] [(.int p2), (.ref a0)]))
  have f3 : Exa Z h2 a0 "java/util/ImmutableCollections$ListItr" := (E0.wr W2)
  have f4 : Fld Z h2 a0 "java/util/ImmutableCollections$ListItr" "size" "I" (.int (0 : Int32)) := (F1.other W2 (Or.inr (slot_ne (Or.inr (hw _ (List.mem_of_getElem? (i := 104) rfl))) (Or.inr (hw _ (List.mem_of_getElem? (i := 102) rfl))) (by decide) (t := .int) (t' := (.object "java/util/List")) (by decide) (by decide))))
  obtain ⟨T5, h5, X5, e5, W5, st5⟩ := putF X2 hx hZ hown (host := "") (Or.inl (hw _ (List.mem_of_getElem? (i := 103) rfl))) Via.refl e2 f4 f3 (Or.inr ⟨(hw _ (List.mem_of_getElem? (i := 104) rfl)), rfl, hnm⟩) (hw _ (List.mem_of_getElem? (i := 85) rfl)) (ty := .int) (by decide) rfl rfl (g := (mkF m 11 #[.val (.ref a0), .val (.ref a1), .val (.int p2)] [(.int p2), (.ref a0)])) rfl rfl (hb hby d14_11)
  refine OGo.by st5 ?_
  have Fw5 := f4.same W5
  have N5 := Fr.snoc X5 N2 g_a0
  have K5 : Keep h0 h5 [a0] := (K2).wr W5 (Or.inl (List.mem_of_getElem? (i := 0) rfl))
  show OGo p e below _ (T5.setTop (mkF m 14 #[.val (.ref a0), .val (.ref a1), .val (.int p2)] []))
  refine OGo.by (fun _ k => XS.aloadN X5.here hx rfl (hb hby d14_14) rfl rfl k) ?_
  show OGo p e below _ (T5.setTop (mkF m 15 #[.val (.ref a0), .val (.ref a1), .val (.int p2)] [(.ref a0)]))
  refine OGo.by (fun _ k => XS.iconst X5.here hx rfl (hb hby d14_15) k) ?_
  show OGo p e below _ (T5.setTop (mkF m 16 #[.val (.ref a0), .val (.ref a1), .val (.int p2)] [(.int (0 : Int32)), (.ref a0)]))
  have f6 : Exa Z h5 a0 "java/util/ImmutableCollections$ListItr" := (f3.wr W5)
  have f7 : Fld Z h5 a0 "java/util/ImmutableCollections$ListItr" "cursor" "I" (.int (0 : Int32)) := ((F2.other W2 (Or.inr (slot_ne (Or.inl (hw _ (List.mem_of_getElem? (i := 106) rfl))) (Or.inr (hw _ (List.mem_of_getElem? (i := 102) rfl))) (by decide) (t := .int) (t' := (.object "java/util/List")) (by decide) (by decide)))).other W5 (Or.inr (slot_ne (Or.inl (hw _ (List.mem_of_getElem? (i := 106) rfl))) (Or.inr (hw _ (List.mem_of_getElem? (i := 104) rfl))) (by decide) (t := .int) (t' := .int) (by decide) (by decide))))
  obtain ⟨T8, h8, X8, e8, W8, st8⟩ := putF X5 hx hZ hown (host := "") (Or.inl (hw _ (List.mem_of_getElem? (i := 105) rfl))) Via.refl e5 f7 f6 (Or.inl (hw _ (List.mem_of_getElem? (i := 106) rfl))) (hw _ (List.mem_of_getElem? (i := 85) rfl)) (ty := .int) (by decide) rfl rfl (g := (mkF m 16 #[.val (.ref a0), .val (.ref a1), .val (.int p2)] [(.int (0 : Int32)), (.ref a0)])) rfl rfl (hb hby d14_16)
  refine OGo.by st8 ?_
  have Fw8 := f7.same W8
  have N8 := Fr.snoc X8 N5 g_a0
  have K8 : Keep h0 h8 [a0] := (K5).wr W8 (Or.inl (List.mem_of_getElem? (i := 0) rfl))
  show OGo p e below _ (T8.setTop (mkF m 19 #[.val (.ref a0), .val (.ref a1), .val (.int p2)] []))
  refine OGo.by (fun _ k => XS.aloadN X8.here hx rfl (hb hby d14_19) rfl rfl k) ?_
  show OGo p e below _ (T8.setTop (mkF m 20 #[.val (.ref a0), .val (.ref a1), .val (.int p2)] [(.ref a0)]))
  refine OGo.by (fun _ k => XS.iconst X8.here hx rfl (hb hby d14_20) k) ?_
  show OGo p e below _ (T8.setTop (mkF m 21 #[.val (.ref a0), .val (.ref a1), .val (.int p2)] [(.int (0 : Int32)), (.ref a0)]))
  have f9 : Exa Z h8 a0 "java/util/ImmutableCollections$ListItr" := (f6.wr W8)
  have f10 : Fld Z h8 a0 "java/util/ImmutableCollections$ListItr" "isListIterator" "Z" (.int (0 : Int32)) := (((F3.other W2 (Or.inr (slot_ne (Or.inr (hw _ (List.mem_of_getElem? (i := 108) rfl))) (Or.inr (hw _ (List.mem_of_getElem? (i := 102) rfl))) (by decide) (t := .boolean) (t' := (.object "java/util/List")) (by decide) (by decide)))).other W5 (Or.inr (slot_ne (Or.inr (hw _ (List.mem_of_getElem? (i := 108) rfl))) (Or.inr (hw _ (List.mem_of_getElem? (i := 104) rfl))) (by decide) (t := .boolean) (t' := .int) (by decide) (by decide)))).other W8 (Or.inr (slot_ne (Or.inr (hw _ (List.mem_of_getElem? (i := 108) rfl))) (Or.inl (hw _ (List.mem_of_getElem? (i := 106) rfl))) (by decide) (t := .boolean) (t' := .int) (by decide) (by decide))))
  obtain ⟨T11, h11, X11, e11, W11, st11⟩ := putFN X8 hx hZ hown (hw _ (List.mem_of_getElem? (i := 107) rfl)) Via.refl e8 f10 f9 (Or.inr ⟨(hw _ (List.mem_of_getElem? (i := 108) rfl)), rfl, hnm⟩) (hw _ (List.mem_of_getElem? (i := 85) rfl)) (ty := .boolean) (v' := (.int (0 : Int32))) (by decide) rfl rfl (g := (mkF m 21 #[.val (.ref a0), .val (.ref a1), .val (.int p2)] [(.int (0 : Int32)), (.ref a0)])) rfl rfl (hb hby d14_21)
  refine OGo.by st11 ?_
  have Fw11 := f10.same W11
  have N11 := Fr.snoc X11 N8 g_a0
  have K11 : Keep h0 h11 [a0] := (K8).wr W11 (Or.inl (List.mem_of_getElem? (i := 0) rfl))
  show OGo p e below _ (T11.setTop (mkF m 24 #[.val (.ref a0), .val (.ref a1), .val (.int p2)] []))
  obtain ⟨fs, hr, hrun, hended, hW, hsame⟩ := X11.leave (v := none) (fun _ => rfl)
  refine OGo.ret (X11.returnOut hx Bd.returns (hb hby d14_24) hr) hrun hended ⟨_, _, rfl, ?_, ⟨_, rfl⟩, hW, hsame.mono (by decide) (by decide)⟩
  show Q_rm14 Z a0 a1 p2 h0 n0 _ T11.heap _
  rw [e11]
  have f12 : Exa Z h11 a0 "java/util/ImmutableCollections$ListItr" := (f9.wr W11)
  have f13 : Fld Z h11 a0 "java/util/ImmutableCollections$ListItr" "list" "Ljava/util/List;" (.ref a1) := (((Fw2.other W5 (Or.inr (slot_ne (Or.inr (hw _ (List.mem_of_getElem? (i := 102) rfl))) (Or.inr (hw _ (List.mem_of_getElem? (i := 104) rfl))) (by decide) (t := (.object "java/util/List")) (t' := .int) (by decide) (by decide)))).other W8 (Or.inr (slot_ne (Or.inr (hw _ (List.mem_of_getElem? (i := 102) rfl))) (Or.inl (hw _ (List.mem_of_getElem? (i := 106) rfl))) (by decide) (t := (.object "java/util/List")) (t' := .int) (by decide) (by decide)))).other W11 (Or.inr (slot_ne (Or.inr (hw _ (List.mem_of_getElem? (i := 102) rfl))) (Or.inr (hw _ (List.mem_of_getElem? (i := 108) rfl))) (by decide) (t := (.object "java/util/List")) (t' := .boolean) (by decide) (by decide))))
  have f14 : Fld Z h11 a0 "java/util/ImmutableCollections$ListItr" "size" "I" (.int p2) := ((Fw5.other W8 (Or.inr (slot_ne (Or.inr (hw _ (List.mem_of_getElem? (i := 104) rfl))) (Or.inl (hw _ (List.mem_of_getElem? (i := 106) rfl))) (by decide) (t := .int) (t' := .int) (by decide) (by decide)))).other W11 (Or.inr (slot_ne (Or.inr (hw _ (List.mem_of_getElem? (i := 104) rfl))) (Or.inr (hw _ (List.mem_of_getElem? (i := 108) rfl))) (by decide) (t := .int) (t' := .boolean) (by decide) (by decide))))
  have f15 : Fld Z h11 a0 "java/util/ImmutableCollections$ListItr" "cursor" "I" (.int (0 : Int32)) := (Fw8.other W11 (Or.inr (slot_ne (Or.inl (hw _ (List.mem_of_getElem? (i := 106) rfl))) (Or.inr (hw _ (List.mem_of_getElem? (i := 108) rfl))) (by decide) (t := .int) (t' := .boolean) (by decide) (by decide))))
  exact ⟨rfl, N11, K11, f12, f13, f14, f15⟩
theorem d13_0 : decode jdk_45_method_3_code 0 = .ok (.aload_n 0, 1) := by decide +kernel
theorem d13_1 : decode jdk_45_method_3_code 1 = .ok (.getfield 7, 3) := by decide +kernel
theorem d13_4 : decode jdk_45_method_3_code 4 = .ok (.arraylength, 1) := by decide +kernel
theorem d13_5 : decode jdk_45_method_3_code 5 = .ok (.ireturn, 1) := by decide +kernel
theorem own_pn13 : plainName "java/util/ImmutableCollections$ListN" = true := by first | (simp [plainName, overriddenIn]; done) | decide +kernel
theorem ef_rm_siz0 (m : MethodId) (a0 : Addr) : entryFrame m #[(.ref a0)] 1 = mkF m 0 #[.val (.ref a0)] [] := by first | (simp [entryFrame, mkF, argsToLocals, Value.category]; done) | rfl
def Q_rm_siz0 (Z : State) (a0 : Addr) (t : Addr) (kt : ClassId) (h0 : Heap) (n0 : Nat) (v : Option Value) (h : Heap) (L : List Loc) : Prop := v = some (.int (0 : Int32)) ∧ Fr n0 L ∧ h = h0
set_option maxRecDepth 65536 in
set_option maxHeartbeats 40000000 in
theorem rm_siz0 (l : Launch) (Z : State) (av0 : Array Value) (hw : ∀ d ∈ tables_1, d.before av0 Z = true) (ws : List Jvm.Cond) (a0 : Addr) (t : Addr) (kt : ClassId) (h0 : Heap) (n0 : Nat) (Z0 : n0 ≤ h0.size) (l_0 : Exa Z h0 a0 "java/util/ImmutableCollections$ListN") (l_1 : Fld Z h0 a0 "java/util/ImmutableCollections$ListN" "elements" "[Ljava/lang/Object;" (.ref t)) (l_2 : Arv Z h0 t kt (.object "java/lang/Object") (0 : Int32) [] .null) :
    MetFree l (⟨"java/util/ImmutableCollections$ListN", "size", "()I"⟩ : MethodName) (head1 (Jvm.Cond.code (⟨"java/util/ImmutableCollections$ListN", "size", "()I"⟩ : MethodName) jdk_45_method_3_code 1 (some .int) :: ws) ({ frames := 0, cells := 0, slots := 0, locals := 0 } : Room)) (fun a U => a = #[(.ref a0)] ∧ Z.Warmed39 U.vm ∧ U.heap = h0) (fun _ _ _ _ _ => True) (fun _ U o U' => ∃ v L, o = .returned v ∧ Q_rm_siz0 Z a0 t kt h0 n0 v U'.heap L ∧ FrameEnd U o U' L ({ frames := 0, cells := 0, slots := 0, locals := 0 } : Room).cells ({ frames := 0, cells := 0, slots := 0, locals := 0 } : Room).slots) := by
  refine MetFree.of_bodySF (plainFor_of_name own_pn13) hisR ?_
  intro p e s m args below meth c s₁ Bd hml0 hP hK
  obtain ⟨rfl, hZ, hh⟩ := hP
  have hx := Bd.exec
  have hby := Bd.bytes
  have hml : c.maxLocals = 1 := hml0
  have hown : s.vm.findClass "java/util/ImmutableCollections$ListN" = some m.cls := findClass_of_methodNamed Bd.named
  have hnm := (name_of_methodNamed Bd.named Bd.method).1
  have X0 : Stand p l e ({ frames := 0, cells := 0, slots := 0, locals := 0 } : Room) s m #[(.ref a0)] below meth c s₁ [] 0 0 := Stand.of_body Bd
  have e0 : s₁.heap = h0 := by rw [← hh, Bd.state]; rfl
  have N0 := Fr.nil n0
  refine OGo.by (P := fun U' o => ∃ v L, o = .returned v ∧ Q_rm_siz0 Z a0 t kt h0 n0 v U'.heap L ∧ FrameEnd s o U' L ({ frames := 0, cells := 0, slots := 0, locals := 0 } : Room).cells ({ frames := 0, cells := 0, slots := 0, locals := 0 } : Room).slots) (fun T_ k_ => castTop (ef_rm_siz0 m a0) k_) ?_
  show OGo p e below _ (s₁.setTop (mkF m 0 #[.val (.ref a0)] []))
  refine OGo.by (fun _ k => XS.aloadN X0.here hx rfl (hb hby d13_0) rfl rfl k) ?_
  show OGo p e below _ (s₁.setTop (mkF m 1 #[.val (.ref a0)] [(.ref a0)]))
  obtain ⟨T1, X1, e1, st1⟩ := getF X0 hx hZ hown (host := "") (Or.inl (hw _ (List.mem_of_getElem? (i := 94) rfl))) Via.refl e0 l_1 (g := (mkF m 1 #[.val (.ref a0)] [(.ref a0)])) rfl rfl (hb hby d13_1)
  refine OGo.by st1 ?_
  show OGo p e below _ (T1.setTop (mkF m 4 #[.val (.ref a0)] [(.ref t)]))
  obtain ⟨cl2, Ar2, q2, S2, M2, -, -⟩ := id l_2
  refine OGo.by (X1.arraylength hx (by rw [e1]; exact Ar2.1) (State.isArrayOf_alike hZ.alike Ar2.2.1) (g := (mkF m 4 #[.val (.ref a0)] [(.ref t)])) rfl rfl (hb hby d13_4)) ?_
  rw [len_of S2 M2]
  show OGo p e below _ (T1.setTop (mkF m 5 #[.val (.ref a0)] [(.int (0 : Int32))]))
  obtain ⟨fs, hr, hrun, hended, hW, hsame⟩ := X1.leave (v := some (.int (0 : Int32))) (fun h => by rw [Bd.returns] at h; cases h)
  refine OGo.ret (retI X1 hx Bd.returns (hb hby d13_5) hr) hrun hended ⟨_, _, rfl, ?_, ⟨_, rfl⟩, hW, hsame.mono (by decide) (by decide)⟩
  show Q_rm_siz0 Z a0 t kt h0 n0 _ T1.heap _
  rw [e1]
  exact ⟨rfl, N0, rfl⟩
theorem d12_0 : decode jdk_46_method_10_code 0 = .ok (.new 61, 3) := by decide +kernel
theorem d12_3 : decode jdk_46_method_10_code 3 = .ok (.dup, 1) := by decide +kernel
theorem d12_4 : decode jdk_46_method_10_code 4 = .ok (.aload_n 0, 1) := by decide +kernel
theorem d12_5 : decode jdk_46_method_10_code 5 = .ok (.aload_n 0, 1) := by decide +kernel
theorem d12_6 : decode jdk_46_method_10_code 6 = .ok (.invokevirtual 13, 3) := by decide +kernel
theorem own_pd15 : parseMethodDescriptor "()I" = some ⟨[], some .int⟩ := by decide +kernel
theorem d12_9 : decode jdk_46_method_10_code 9 = .ok (.invokespecial 63, 3) := by decide +kernel
theorem own_pd16 : parseMethodDescriptor "(Ljava/util/List;I)V" = some ⟨[(.object "java/util/List"), .int], none⟩ := by decide +kernel
theorem d12_12 : decode jdk_46_method_10_code 12 = .ok (.areturn, 1) := by decide +kernel
theorem own_pn12 : plainName "java/util/ImmutableCollections$AbstractImmutableList" = true := by first | (simp [plainName, overriddenIn]; done) | decide +kernel
theorem ef_rm_itr0 (m : MethodId) (a0 : Addr) : entryFrame m #[(.ref a0)] 1 = mkF m 0 #[.val (.ref a0)] [] := by first | (simp [entryFrame, mkF, argsToLocals, Value.category]; done) | rfl
def Q_rm_itr0 (Z : State) (a0 : Addr) (t : Addr) (kt : ClassId) (h0 : Heap) (n0 : Nat) (v : Option Value) (h : Heap) (L : List Loc) : Prop := ∃ b : Addr, v = some (.ref b) ∧ Fr n0 L ∧ Keep h0 h [] ∧ (h0.size ≤ b) ∧ (n0 ≤ b) ∧ (Exa Z h b "java/util/ImmutableCollections$ListItr") ∧ (Fld Z h b "java/util/ImmutableCollections$ListItr" "list" "Ljava/util/List;" (.ref a0)) ∧ (Fld Z h b "java/util/ImmutableCollections$ListItr" "size" "I" (.int (0 : Int32))) ∧ (Fld Z h b "java/util/ImmutableCollections$ListItr" "cursor" "I" (.int (0 : Int32)))
set_option maxRecDepth 65536 in
set_option maxHeartbeats 40000000 in
theorem rm_itr0 (l : Launch) (Z : State) (av0 : Array Value) (hw : ∀ d ∈ tables_1, d.before av0 Z = true) (ws : List Jvm.Cond) (a0 : Addr) (t : Addr) (kt : ClassId) (h0 : Heap) (n0 : Nat) (Z0 : n0 ≤ h0.size) (l_0 : Exa Z h0 a0 "java/util/ImmutableCollections$ListN") (l_1 : Fld Z h0 a0 "java/util/ImmutableCollections$ListN" "elements" "[Ljava/lang/Object;" (.ref t)) (l_2 : Arv Z h0 t kt (.object "java/lang/Object") (0 : Int32) [] .null) :
    MetFree l (⟨"java/util/ImmutableCollections$AbstractImmutableList", "iterator", "()Ljava/util/Iterator;"⟩ : MethodName) (head1 (Jvm.Cond.code (⟨"java/util/ImmutableCollections$AbstractImmutableList", "iterator", "()Ljava/util/Iterator;"⟩ : MethodName) jdk_46_method_10_code 1 (some (.object "java/util/Iterator")) :: ws) ({ frames := 2, cells := 1, slots := 4, locals := 27 } : Room)) (fun a U => a = #[(.ref a0)] ∧ Z.Warmed39 U.vm ∧ U.heap = h0) (fun _ _ _ _ _ => True) (fun _ U o U' => ∃ v L, o = .returned v ∧ Q_rm_itr0 Z a0 t kt h0 n0 v U'.heap L ∧ FrameEnd U o U' L ({ frames := 2, cells := 1, slots := 4, locals := 27 } : Room).cells ({ frames := 2, cells := 1, slots := 4, locals := 27 } : Room).slots) := by
  refine MetFree.of_bodySF (plainFor_of_name own_pn12) hisR ?_
  intro p e s m args below meth c s₁ Bd hml0 hP hK
  obtain ⟨rfl, hZ, hh⟩ := hP
  have hx := Bd.exec
  have hby := Bd.bytes
  have hml : c.maxLocals = 1 := hml0
  have hown : s.vm.findClass "java/util/ImmutableCollections$AbstractImmutableList" = some m.cls := findClass_of_methodNamed Bd.named
  have hnm := (name_of_methodNamed Bd.named Bd.method).1
  have X0 : Stand p l e ({ frames := 2, cells := 1, slots := 4, locals := 27 } : Room) s m #[(.ref a0)] below meth c s₁ [] 0 0 := Stand.of_body Bd
  have e0 : s₁.heap = h0 := by rw [← hh, Bd.state]; rfl
  have N0 := Fr.nil n0
  refine OGo.by (P := fun U' o => ∃ v L, o = .returned v ∧ Q_rm_itr0 Z a0 t kt h0 n0 v U'.heap L ∧ FrameEnd s o U' L ({ frames := 2, cells := 1, slots := 4, locals := 27 } : Room).cells ({ frames := 2, cells := 1, slots := 4, locals := 27 } : Room).slots) (fun T_ k_ => castTop (ef_rm_itr0 m a0) k_) ?_
  show OGo p e below _ (s₁.setTop (mkF m 0 #[.val (.ref a0)] []))
  obtain ⟨T1, h1, X1, e1, E1, A1, D1, U1, st1⟩ := newO X0 hx hZ hown (hw _ (List.mem_of_getElem? (i := 84) rfl)) (hw _ (List.mem_of_getElem? (i := 85) rfl)) (hw _ (List.mem_of_getElem? (i := 86) rfl)) e0 (g := (mkF m 0 #[.val (.ref a0)] [])) rfl (hb hby d12_0) (by decide) (by decide)
  obtain ⟨b1, g1⟩ : ∃ z, z = h0.size := ⟨_, rfl⟩
  rw [← g1] at A1 D1 U1 st1
  have ne_a0_b1 : a0 ≠ b1 := Nat.ne_of_lt (Nat.lt_of_lt_of_le l_0.lt (Nat.le_of_eq g1.symm))
  have ne_t_b1 : t ≠ b1 := Nat.ne_of_lt (Nat.lt_of_lt_of_le l_2.lt (Nat.le_of_eq g1.symm))
  have g_b1 : n0 ≤ b1 := Nat.le_trans Z0 (Nat.le_of_eq g1.symm)
  have sz_b1 : h0.size ≤ b1 := Nat.le_trans (Nat.le_refl _) (Nat.le_of_eq g1.symm)
  refine OGo.by st1 ?_
  have K1 : Keep h0 h1 [] := ((Keep.refl h0 [])).ext E1
  have F1_list : Fld Z h1 b1 "java/util/ImmutableCollections$ListItr" "list" "Ljava/util/List;" .null := D1 (Or.inr (hw _ (List.mem_of_getElem? (i := 102) rfl))) (ty := (.object "java/util/List")) (by decide)
  have F1_size : Fld Z h1 b1 "java/util/ImmutableCollections$ListItr" "size" "I" (.int (0 : Int32)) := D1 (Or.inr (hw _ (List.mem_of_getElem? (i := 104) rfl))) (ty := .int) (by decide)
  have F1_cursor : Fld Z h1 b1 "java/util/ImmutableCollections$ListItr" "cursor" "I" (.int (0 : Int32)) := D1 (Or.inl (hw _ (List.mem_of_getElem? (i := 106) rfl))) (ty := .int) (by decide)
  have F1_isListIterator : Fld Z h1 b1 "java/util/ImmutableCollections$ListItr" "isListIterator" "Z" (.int (0 : Int32)) := D1 (Or.inr (hw _ (List.mem_of_getElem? (i := 108) rfl))) (ty := .boolean) (by decide)
  show OGo p e below _ (T1.setTop (mkF m 3 #[.val (.ref a0)] [(.ref b1)]))
  refine OGo.by (fun _ k => XS.dup X1.here hx rfl (hb hby d12_3) rfl rfl k) ?_
  show OGo p e below _ (T1.setTop (mkF m 4 #[.val (.ref a0)] [(.ref b1), (.ref b1)]))
  refine OGo.by (fun _ k => XS.aloadN X1.here hx rfl (hb hby d12_4) rfl rfl k) ?_
  show OGo p e below _ (T1.setTop (mkF m 5 #[.val (.ref a0)] [(.ref a0), (.ref b1), (.ref b1)]))
  refine OGo.by (fun _ k => XS.aloadN X1.here hx rfl (hb hby d12_5) rfl rfl k) ?_
  show OGo p e below _ (T1.setTop (mkF m 6 #[.val (.ref a0)] [(.ref a0), (.ref a0), (.ref b1), (.ref b1)]))
  have f3 : Exa Z h1 a0 "java/util/ImmutableCollections$ListN" := (l_0.ext E1)
  have f4 : Fld Z h1 a0 "java/util/ImmutableCollections$ListN" "elements" "[Ljava/lang/Object;" (.ref t) := (l_1.ext E1)
  have f5 : Arv Z h1 t kt (.object "java/lang/Object") (0 : Int32) [] .null := (l_2.ext E1)
  obtain ⟨cq2, kq2, q2a, q2b, q2c⟩ := isOf hZ e1 f3
  obtain ⟨_, _, ⟨T2, L2, k2, n2⟩, -, X2, ⟨Lc2, hQ2, l2, y2, z2⟩, st2⟩ := X1.virtualBackUp hx (owner := "java/util/AbstractCollection") (x := (⟨"java/util/ImmutableCollections$AbstractImmutableList", "size", "()I"⟩ : MethodName)) (y := (⟨"java/util/ImmutableCollections$ListN", "size", "()I"⟩ : MethodName)) hown (mvT hZ (hw _ (List.mem_of_getElem? (i := 87) rfl))) (mvT hZ (hw _ (List.mem_of_getElem? (i := 88) rfl))) (mvT hZ (hw _ (List.mem_of_getElem? (i := 89) rfl))) (by decide) (mvT hZ (hw _ (List.mem_of_getElem? (i := 90) rfl))) (mvT hZ (hw _ (List.mem_of_getElem? (i := 91) rfl))) (backOf (W := 3) (rm_siz0 l Z av0 hw [] a0 t kt h1 n0 (Nat.le_trans Z0 K1.1) f3 f4 f5) hZ (hw _ (List.mem_of_getElem? (i := 93) rfl)) (hw _ (List.mem_of_getElem? (i := 92) rfl)) (by decide) (by decide)) q2a q2c (g := (mkF m 6 #[.val (.ref a0)] [(.ref a0), (.ref a0), (.ref b1), (.ref b1)])) rfl (by rw [hml]; rfl) (Steps.refl _) (argsL := []) (rest := [(.ref a0), (.ref b1), (.ref b1)]) (lenOf own_pd15 rfl) rfl (by show 2 * 0 + _ ≤ _; exact Nat.le_of_eq rfl) (hb hby d12_6) (fun _ _ => ⟨rfl, e1, (by decide : 1 + 0 ≤ _), (by decide : 4 + 0 ≤ _)⟩)
  dsimp only [Pt.U, Pt.locs, Pt.cells, Pt.slots] at X2 l2 y2 z2 st2 hQ2
  subst l2 y2 z2
  obtain ⟨rfl, N2q, e2⟩ := hQ2
  have N2 := Fr.app N0 N2q
  refine OGo.of st2 ?_
  show OGo p e below _ (T2.setTop (mkF m 9 #[.val (.ref a0)] [(.int (0 : Int32)), (.ref a0), (.ref b1), (.ref b1)]))
  obtain ⟨_, _, ⟨T6, L6, k6, n6⟩, -, X6, ⟨Lc6, hQ6, l6, y6, z6⟩, st6⟩ := X2.specialBack hx (y := (⟨"java/util/ImmutableCollections$ListItr", "<init>", "(Ljava/util/List;I)V"⟩ : MethodName)) rfl hown (mvT hZ (hw _ (List.mem_of_getElem? (i := 96) rfl))) (mvT hZ (hw _ (List.mem_of_getElem? (i := 97) rfl))) (mvT hZ (hw _ (List.mem_of_getElem? (i := 99) rfl))) (by decide) (backOf (W := 1) (rm14 l Z av0 hw [] b1 a0 (0 : Int32) h1 n0 (Nat.le_trans Z0 K1.1) A1 F1_list F1_size F1_cursor F1_isListIterator g_b1) hZ (hw _ (List.mem_of_getElem? (i := 99) rfl)) (hw _ (List.mem_of_getElem? (i := 86) rfl)) (by decide) (by decide)) (g := (mkF m 9 #[.val (.ref a0)] [(.int (0 : Int32)), (.ref a0), (.ref b1), (.ref b1)])) rfl (by rw [hml]; rfl) (Steps.refl _) (a := b1) (argsL := [(.ref a0), (.int (0 : Int32))]) (rest := [(.ref b1)]) (lenOf own_pd16 rfl) rfl (by show 2 * 0 + _ ≤ _; exact Nat.le_of_eq rfl) (hb hby d12_9) (fun _ _ => ⟨rfl, e2, (by decide : 1 + 0 ≤ _), (by decide : 4 + 0 ≤ _)⟩)
  dsimp only [Pt.U, Pt.locs, Pt.cells, Pt.slots] at X6 l6 y6 z6 st6 hQ6
  subst l6 y6 z6
  obtain ⟨rfl, N6q, Kc6, G6_0, G6_1, G6_2, G6_3⟩ := hQ6
  have N6 := Fr.app N2 N6q
  have K6 : Keep h0 T6.heap [] := (K1).trans Kc6 (allS (P := fun x => x ∈ ([] : List Addr) ∨ h0.size ≤ x) (Or.inr sz_b1) (all0 (P := fun x => x ∈ ([] : List Addr) ∨ h0.size ≤ x)))
  refine OGo.of st6 ?_
  show OGo p e below _ (T6.setTop (mkF m 12 #[.val (.ref a0)] [(.ref b1)]))
  obtain ⟨fs, hr, hrun, hended, hW, hsame⟩ := X6.leave (v := some (.ref b1)) (fun h => by rw [Bd.returns] at h; cases h)
  refine OGo.ret (retOut X6 hx Bd.returns rfl (Or.inr (Or.inr (Or.inr (Or.inr ⟨rfl, rfl, rfl⟩)))) (hb hby d12_12) hr) hrun hended ⟨_, _, rfl, ?_, ⟨_, rfl⟩, hW, hsame.mono (by decide) (by decide)⟩
  show Q_rm_itr0 Z a0 t kt h0 n0 _ T6.heap _
  exact ⟨b1, rfl, N6, K6, sz_b1, g_b1, G6_0, G6_1, G6_2, G6_3⟩
theorem d15_0 : decode jdk_53_method_3_code 0 = .ok (.aload_n 0, 1) := by decide +kernel
theorem d15_1 : decode jdk_53_method_3_code 1 = .ok (.getfield 17, 3) := by decide +kernel
theorem d15_4 : decode jdk_53_method_3_code 4 = .ok (.aload_n 0, 1) := by decide +kernel
theorem d15_5 : decode jdk_53_method_3_code 5 = .ok (.getfield 13, 3) := by decide +kernel
theorem d15_8 : decode jdk_53_method_3_code 8 = .ok (.if_icmp .eq 7, 3) := by decide +kernel
theorem d15_15 : decode jdk_53_method_3_code 15 = .ok (.iconst 0, 1) := by decide +kernel
theorem d15_16 : decode jdk_53_method_3_code 16 = .ok (.ireturn, 1) := by decide +kernel
theorem own_pn15 : plainName "java/util/ImmutableCollections$ListItr" = true := by first | (simp [plainName, overriddenIn]; done) | decide +kernel
theorem ef_rm_hn0_0 (m : MethodId) (a0 : Addr) : entryFrame m #[(.ref a0)] 1 = mkF m 0 #[.val (.ref a0)] [] := by first | (simp [entryFrame, mkF, argsToLocals, Value.category]; done) | rfl
def Q_rm_hn0_0 (Z : State) (a0 : Addr) (h0 : Heap) (n0 : Nat) (v : Option Value) (h : Heap) (L : List Loc) : Prop := v = some (.int (0 : Int32)) ∧ Fr n0 L ∧ h = h0
set_option maxRecDepth 65536 in
set_option maxHeartbeats 40000000 in
theorem rm_hn0_0 (l : Launch) (Z : State) (av0 : Array Value) (hw : ∀ d ∈ tables_1, d.before av0 Z = true) (ws : List Jvm.Cond) (a0 : Addr) (h0 : Heap) (n0 : Nat) (Z0 : n0 ≤ h0.size) (F1 : Fld Z h0 a0 "java/util/ImmutableCollections$ListItr" "size" "I" (.int (0 : Int32))) (F2 : Fld Z h0 a0 "java/util/ImmutableCollections$ListItr" "cursor" "I" (.int (0 : Int32))) :
    MetFree l (⟨"java/util/ImmutableCollections$ListItr", "hasNext", "()Z"⟩ : MethodName) (head1 (Jvm.Cond.code (⟨"java/util/ImmutableCollections$ListItr", "hasNext", "()Z"⟩ : MethodName) jdk_53_method_3_code 1 (some .boolean) :: ws) ({ frames := 0, cells := 0, slots := 0, locals := 0 } : Room)) (fun a U => a = #[(.ref a0)] ∧ Z.Warmed39 U.vm ∧ U.heap = h0) (fun _ _ _ _ _ => True) (fun _ U o U' => ∃ v L, o = .returned v ∧ Q_rm_hn0_0 Z a0 h0 n0 v U'.heap L ∧ FrameEnd U o U' L ({ frames := 0, cells := 0, slots := 0, locals := 0 } : Room).cells ({ frames := 0, cells := 0, slots := 0, locals := 0 } : Room).slots) := by
  refine MetFree.of_bodySF (plainFor_of_name own_pn15) hisR ?_
  intro p e s m args below meth c s₁ Bd hml0 hP hK
  obtain ⟨rfl, hZ, hh⟩ := hP
  have hx := Bd.exec
  have hby := Bd.bytes
  have hml : c.maxLocals = 1 := hml0
  have hown : s.vm.findClass "java/util/ImmutableCollections$ListItr" = some m.cls := findClass_of_methodNamed Bd.named
  have hnm := (name_of_methodNamed Bd.named Bd.method).1
  have X0 : Stand p l e ({ frames := 0, cells := 0, slots := 0, locals := 0 } : Room) s m #[(.ref a0)] below meth c s₁ [] 0 0 := Stand.of_body Bd
  have e0 : s₁.heap = h0 := by rw [← hh, Bd.state]; rfl
  have N0 := Fr.nil n0
  refine OGo.by (P := fun U' o => ∃ v L, o = .returned v ∧ Q_rm_hn0_0 Z a0 h0 n0 v U'.heap L ∧ FrameEnd s o U' L ({ frames := 0, cells := 0, slots := 0, locals := 0 } : Room).cells ({ frames := 0, cells := 0, slots := 0, locals := 0 } : Room).slots) (fun T_ k_ => castTop (ef_rm_hn0_0 m a0) k_) ?_
  show OGo p e below _ (s₁.setTop (mkF m 0 #[.val (.ref a0)] []))
  refine OGo.by (fun _ k => XS.aloadN X0.here hx rfl (hb hby d15_0) rfl rfl k) ?_
  show OGo p e below _ (s₁.setTop (mkF m 1 #[.val (.ref a0)] [(.ref a0)]))
  obtain ⟨T1, X1, e1, st1⟩ := getF X0 hx hZ hown (host := "") (Or.inl (hw _ (List.mem_of_getElem? (i := 105) rfl))) Via.refl e0 F2 (g := (mkF m 1 #[.val (.ref a0)] [(.ref a0)])) rfl rfl (hb hby d15_1)
  refine OGo.by st1 ?_
  show OGo p e below _ (T1.setTop (mkF m 4 #[.val (.ref a0)] [(.int (0 : Int32))]))
  refine OGo.by (fun _ k => XS.aloadN X1.here hx rfl (hb hby d15_4) rfl rfl k) ?_
  show OGo p e below _ (T1.setTop (mkF m 5 #[.val (.ref a0)] [(.ref a0), (.int (0 : Int32))]))
  obtain ⟨T2, X2, e2, st2⟩ := getF X1 hx hZ hown (host := "") (Or.inl (hw _ (List.mem_of_getElem? (i := 103) rfl))) Via.refl e1 F1 (g := (mkF m 5 #[.val (.ref a0)] [(.ref a0), (.int (0 : Int32))])) rfl rfl (hb hby d15_5)
  refine OGo.by st2 ?_
  show OGo p e below _ (T2.setTop (mkF m 8 #[.val (.ref a0)] [(.int (0 : Int32)), (.int (0 : Int32))]))
  refine OGo.by (fun _ k => XS.icmpYes X2.here hx rfl (pc0 := 8) (pc' := 15) rfl (hb hby d15_8) rfl (teq (by decide : (0 : Int32) = (0 : Int32))).1 (by decide) (by decide) k) ?_
  show OGo p e below _ (T2.setTop (mkF m 15 #[.val (.ref a0)] []))
  refine OGo.by (fun _ k => XS.iconst X2.here hx rfl (hb hby d15_15) k) ?_
  show OGo p e below _ (T2.setTop (mkF m 16 #[.val (.ref a0)] [(.int (0 : Int32))]))
  obtain ⟨fs, hr, hrun, hended, hW, hsame⟩ := X2.leave (v := some (.int (0 : Int32))) (fun h => by rw [Bd.returns] at h; cases h)
  refine OGo.ret (retN X2 hx (t := .boolean) Bd.returns (by simp) (hb hby d15_16) hr) hrun hended ⟨_, _, rfl, ?_, ⟨_, rfl⟩, hW, hsame.mono (by decide) (by decide)⟩
  show Q_rm_hn0_0 Z a0 h0 n0 _ T2.heap _
  rw [e2]
  exact ⟨rfl, N0, rfl⟩
theorem d11_0 : decode prog_7_method_2_code 0 = .ok (.lconst 0, 1) := by decide +kernel
theorem d11_1 : decode prog_7_method_2_code 1 = .ok (.lstore_n 1, 1) := by decide +kernel
theorem d11_2 : decode prog_7_method_2_code 2 = .ok (.aload_n 0, 1) := by decide +kernel
theorem d11_3 : decode prog_7_method_2_code 3 = .ok (.getfield 13, 3) := by decide +kernel
theorem d11_6 : decode prog_7_method_2_code 6 = .ok (.invokeinterface 19 1, 5) := by decide +kernel
theorem own_pd17 : parseMethodDescriptor "()Ljava/util/Iterator;" = some ⟨[], some (.object "java/util/Iterator")⟩ := by decide +kernel
theorem d11_11 : decode prog_7_method_2_code 11 = .ok (.astore_n 3, 1) := by decide +kernel
theorem d11_12 : decode prog_7_method_2_code 12 = .ok (.aload_n 3, 1) := by decide +kernel
theorem d11_13 : decode prog_7_method_2_code 13 = .ok (.invokeinterface 23 1, 5) := by decide +kernel
theorem d11_18 : decode prog_7_method_2_code 18 = .ok (.ifCond .eq 25, 3) := by decide +kernel
theorem d11_43 : decode prog_7_method_2_code 43 = .ok (.lload_n 1, 1) := by decide +kernel
theorem d11_44 : decode prog_7_method_2_code 44 = .ok (.lreturn, 1) := by decide +kernel
theorem own_pn11 : plainName "com/example/kept_inbox/keptinbox/Unread" = true := by first | (simp [plainName, overriddenIn]; done) | decide +kernel
theorem ef_rm_tot0 (m : MethodId) (a0 : Addr) : entryFrame m #[(.ref a0)] 5 = mkF m 0 #[.val (.ref a0), .unset, .unset, .unset, .unset] [] := by first | (simp [entryFrame, mkF, argsToLocals, Value.category]; done) | rfl
def Q_rm_tot0 (Z : State) (a0 : Addr) (li : Addr) (t : Addr) (kt : ClassId) (h0 : Heap) (n0 : Nat) (v : Option Value) (h : Heap) (L : List Loc) : Prop := v = some (.long (0 : Int64)) ∧ Fr n0 L ∧ Keep h0 h []
set_option maxRecDepth 65536 in
set_option maxHeartbeats 40000000 in
theorem rm_tot0 (l : Launch) (Z : State) (av0 : Array Value) (hw : ∀ d ∈ tables_1, d.before av0 Z = true) (ws : List Jvm.Cond) (a0 : Addr) (li : Addr) (t : Addr) (kt : ClassId) (h0 : Heap) (n0 : Nat) (Z0 : n0 ≤ h0.size) (F0 : Fld Z h0 a0 "com/example/kept_inbox/keptinbox/Unread" "conversations" "Ljava/util/List;" (.ref li)) (l_0 : Exa Z h0 li "java/util/ImmutableCollections$ListN") (l_1 : Fld Z h0 li "java/util/ImmutableCollections$ListN" "elements" "[Ljava/lang/Object;" (.ref t)) (l_2 : Arv Z h0 t kt (.object "java/lang/Object") (0 : Int32) [] .null) :
    MetFree l (⟨"com/example/kept_inbox/keptinbox/Unread", "total", "()J"⟩ : MethodName) (head1 (Jvm.Cond.code (⟨"com/example/kept_inbox/keptinbox/Unread", "total", "()J"⟩ : MethodName) prog_7_method_2_code 5 (some .long) :: ws) ({ frames := 3, cells := 1, slots := 4, locals := 39 } : Room)) (fun a U => a = #[(.ref a0)] ∧ Z.Warmed39 U.vm ∧ U.heap = h0) (fun _ _ _ _ _ => True) (fun _ U o U' => ∃ v L, o = .returned v ∧ Q_rm_tot0 Z a0 li t kt h0 n0 v U'.heap L ∧ FrameEnd U o U' L ({ frames := 3, cells := 1, slots := 4, locals := 39 } : Room).cells ({ frames := 3, cells := 1, slots := 4, locals := 39 } : Room).slots) := by
  refine MetFree.of_bodySF (plainFor_of_name own_pn11) hisR ?_
  intro p e s m args below meth c s₁ Bd hml0 hP hK
  obtain ⟨rfl, hZ, hh⟩ := hP
  have hx := Bd.exec
  have hby := Bd.bytes
  have hml : c.maxLocals = 5 := hml0
  have hown : s.vm.findClass "com/example/kept_inbox/keptinbox/Unread" = some m.cls := findClass_of_methodNamed Bd.named
  have hnm := (name_of_methodNamed Bd.named Bd.method).1
  have X0 : Stand p l e ({ frames := 3, cells := 1, slots := 4, locals := 39 } : Room) s m #[(.ref a0)] below meth c s₁ [] 0 0 := Stand.of_body Bd
  have e0 : s₁.heap = h0 := by rw [← hh, Bd.state]; rfl
  have N0 := Fr.nil n0
  refine OGo.by (P := fun U' o => ∃ v L, o = .returned v ∧ Q_rm_tot0 Z a0 li t kt h0 n0 v U'.heap L ∧ FrameEnd s o U' L ({ frames := 3, cells := 1, slots := 4, locals := 39 } : Room).cells ({ frames := 3, cells := 1, slots := 4, locals := 39 } : Room).slots) (fun T_ k_ => castTop (ef_rm_tot0 m a0) k_) ?_
  show OGo p e below _ (s₁.setTop (mkF m 0 #[.val (.ref a0), .unset, .unset, .unset, .unset] []))
  refine OGo.by (fun _ k => XS.lconst X0.here hx rfl (hb hby d11_0) k) ?_
  show OGo p e below _ (s₁.setTop (mkF m 1 #[.val (.ref a0), .unset, .unset, .unset, .unset] [(.long (0 : Int64))]))
  refine OGo.by (fun _ k => XS.lstoreN X0.here hx rfl (hb hby d11_1) rfl (l' := #[.val (.ref a0), .val (.long (0 : Int64)), .second, .unset, .unset]) rfl k) ?_
  show OGo p e below _ (s₁.setTop (mkF m 2 #[.val (.ref a0), .val (.long (0 : Int64)), .second, .unset, .unset] []))
  refine OGo.by (fun _ k => XS.aloadN X0.here hx rfl (hb hby d11_2) rfl rfl k) ?_
  show OGo p e below _ (s₁.setTop (mkF m 3 #[.val (.ref a0), .val (.long (0 : Int64)), .second, .unset, .unset] [(.ref a0)]))
  obtain ⟨T1, X1, e1, st1⟩ := getF X0 hx hZ hown (host := "") (Or.inl (hw _ (List.mem_of_getElem? (i := 67) rfl))) Via.refl e0 F0 (g := (mkF m 3 #[.val (.ref a0), .val (.long (0 : Int64)), .second, .unset, .unset] [(.ref a0)])) rfl rfl (hb hby d11_3)
  refine OGo.by st1 ?_
  show OGo p e below _ (T1.setTop (mkF m 6 #[.val (.ref a0), .val (.long (0 : Int64)), .second, .unset, .unset] [(.ref li)]))
  obtain ⟨cq2, kq2, q2a, q2b, q2c⟩ := isOf hZ e1 l_0
  obtain ⟨_, _, ⟨T2, L2, k2, n2⟩, -, X2, ⟨Lc2, hQ2, l2, y2, z2⟩, st2⟩ := X1.interfaceBack hx (xi := (⟨"java/util/List", "iterator", "()Ljava/util/Iterator;"⟩ : MethodName)) (y := (⟨"java/util/ImmutableCollections$AbstractImmutableList", "iterator", "()Ljava/util/Iterator;"⟩ : MethodName)) hown (mvT hZ (hw _ (List.mem_of_getElem? (i := 74) rfl))) (mvT hZ (hw _ (List.mem_of_getElem? (i := 75) rfl))) (mvT hZ (hw _ (List.mem_of_getElem? (i := 76) rfl))) (mvT hZ (hw _ (List.mem_of_getElem? (i := 77) rfl))) (mvT hZ (hw _ (List.mem_of_getElem? (i := 78) rfl))) (mvT hZ (hw _ (List.mem_of_getElem? (i := 79) rfl))) (mvT hZ (hw _ (List.mem_of_getElem? (i := 80) rfl))) (mvT hZ (hw _ (List.mem_of_getElem? (i := 81) rfl))) (by decide) (backOf (W := 0) (rm_itr0 l Z av0 hw [] li t kt h0 n0 Z0 l_0 l_1 l_2) hZ (hw _ (List.mem_of_getElem? (i := 83) rfl)) (hw _ (List.mem_of_getElem? (i := 82) rfl)) (by decide) (by decide)) q2a q2b q2c (g := (mkF m 6 #[.val (.ref a0), .val (.long (0 : Int64)), .second, .unset, .unset] [(.ref li)])) rfl (by rw [hml]; rfl) (Steps.refl _) (argsL := []) (rest := []) (lenOf own_pd17 rfl) rfl (by show 2 * 0 + _ ≤ _; exact Nat.le_of_eq rfl) (hb hby d11_6) (fun _ _ => ⟨rfl, e1, (by decide : 0 + 1 ≤ _), (by decide : 0 + 4 ≤ _)⟩)
  dsimp only [Pt.U, Pt.locs, Pt.cells, Pt.slots] at X2 l2 y2 z2 st2 hQ2
  subst l2 y2 z2
  obtain ⟨b_2, rfl, N2q, Kc2, G2_0, G2_1, G2_2, G2_3, G2_4, G2_5⟩ := hQ2
  have N2 := Fr.app N0 N2q
  have ne_a0_b_2 : a0 ≠ b_2 := Nat.ne_of_lt (Nat.lt_of_lt_of_le F0.lt G2_0)
  have ne_li_b_2 : li ≠ b_2 := Nat.ne_of_lt (Nat.lt_of_lt_of_le l_0.lt G2_0)
  have ne_t_b_2 : t ≠ b_2 := Nat.ne_of_lt (Nat.lt_of_lt_of_le l_2.lt G2_0)
  have g_b_2 : n0 ≤ b_2 := Nat.le_trans Z0 G2_0
  have sz_b_2 : h0.size ≤ b_2 := Nat.le_trans (Nat.le_refl _) G2_0
  have K2 : Keep h0 T2.heap [] := ((Keep.refl h0 [])).trans Kc2 (all0 (P := fun x => x ∈ ([] : List Addr) ∨ h0.size ≤ x))
  refine OGo.of st2 ?_
  show OGo p e below _ (T2.setTop (mkF m 11 #[.val (.ref a0), .val (.long (0 : Int64)), .second, .unset, .unset] [(.ref b_2)]))
  refine OGo.by (fun _ k => XS.astoreN X2.here hx rfl (hb hby d11_11) rfl rfl (l' := #[.val (.ref a0), .val (.long (0 : Int64)), .second, .val (.ref b_2), .unset]) rfl k) ?_
  show OGo p e below _ (T2.setTop (mkF m 12 #[.val (.ref a0), .val (.long (0 : Int64)), .second, .val (.ref b_2), .unset] []))
  refine OGo.by (fun _ k => XS.aloadN X2.here hx rfl (hb hby d11_12) rfl rfl k) ?_
  show OGo p e below _ (T2.setTop (mkF m 13 #[.val (.ref a0), .val (.long (0 : Int64)), .second, .val (.ref b_2), .unset] [(.ref b_2)]))
  obtain ⟨cq3, kq3, q3a, q3b, q3c⟩ := isOf hZ rfl G2_2
  obtain ⟨_, _, ⟨T3, L3, k3, n3⟩, -, X3, ⟨Lc3, hQ3, l3, y3, z3⟩, st3⟩ := X2.interfaceBack hx (xi := (⟨"java/util/Iterator", "hasNext", "()Z"⟩ : MethodName)) (y := (⟨"java/util/ImmutableCollections$ListItr", "hasNext", "()Z"⟩ : MethodName)) hown (mvT hZ (hw _ (List.mem_of_getElem? (i := 109) rfl))) (mvT hZ (hw _ (List.mem_of_getElem? (i := 110) rfl))) (mvT hZ (hw _ (List.mem_of_getElem? (i := 111) rfl))) (mvT hZ (hw _ (List.mem_of_getElem? (i := 112) rfl))) (mvT hZ (hw _ (List.mem_of_getElem? (i := 113) rfl))) (mvT hZ (hw _ (List.mem_of_getElem? (i := 114) rfl))) (mvT hZ (hw _ (List.mem_of_getElem? (i := 115) rfl))) (mvT hZ (hw _ (List.mem_of_getElem? (i := 116) rfl))) (by decide) (backOf (W := 0) (rm_hn0_0 l Z av0 hw [] b_2 T2.heap n0 (Nat.le_trans Z0 K2.1) G2_4 G2_5) hZ (hw _ (List.mem_of_getElem? (i := 117) rfl)) (hw _ (List.mem_of_getElem? (i := 86) rfl)) (by decide) (by decide)) q3a q3b q3c (g := (mkF m 13 #[.val (.ref a0), .val (.long (0 : Int64)), .second, .val (.ref b_2), .unset] [(.ref b_2)])) rfl (by rw [hml]; rfl) (Steps.refl _) (argsL := []) (rest := []) (lenOf own_pd6 rfl) rfl (by show 2 * 0 + _ ≤ _; exact Nat.le_of_eq rfl) (hb hby d11_13) (fun _ _ => ⟨rfl, rfl, (by decide : 1 + 0 ≤ _), (by decide : 4 + 0 ≤ _)⟩)
  dsimp only [Pt.U, Pt.locs, Pt.cells, Pt.slots] at X3 l3 y3 z3 st3 hQ3
  subst l3 y3 z3
  obtain ⟨rfl, N3q, e3⟩ := hQ3
  have N3 := Fr.app N2 N3q
  refine OGo.of st3 ?_
  show OGo p e below _ (T3.setTop (mkF m 18 #[.val (.ref a0), .val (.long (0 : Int64)), .second, .val (.ref b_2), .unset] [(.int (0 : Int32))]))
  refine OGo.by (fun _ k => XS.ifYes X3.here hx rfl (pc0 := 18) (pc' := 43) rfl (hb hby d11_18) rfl ((if0 _ _).trans (teq (by decide : (0 : Int32) = (0 : Int32))).1) (by decide) (by decide) k) ?_
  show OGo p e below _ (T3.setTop (mkF m 43 #[.val (.ref a0), .val (.long (0 : Int64)), .second, .val (.ref b_2), .unset] []))
  refine OGo.by (fun _ k => XS.lloadN X3.here hx rfl (hb hby d11_43) rfl k) ?_
  show OGo p e below _ (T3.setTop (mkF m 44 #[.val (.ref a0), .val (.long (0 : Int64)), .second, .val (.ref b_2), .unset] [(.long (0 : Int64))]))
  obtain ⟨fs, hr, hrun, hended, hW, hsame⟩ := X3.leave (v := some (.long (0 : Int64))) (fun h => by rw [Bd.returns] at h; cases h)
  refine OGo.ret (retOut X3 hx Bd.returns rfl (Or.inr (Or.inl ⟨rfl, rfl, _, rfl⟩)) (hb hby d11_44) hr) hrun hended ⟨_, _, rfl, ?_, ⟨_, rfl⟩, hW, hsame.mono (by decide) (by decide)⟩
  show Q_rm_tot0 Z a0 li t kt h0 n0 _ T3.heap _
  rw [e3]
  exact ⟨rfl, N3, K2⟩
theorem d36_0 : decode jdk_44_method_3_code 0 = .ok (.aload_n 0, 1) := by decide +kernel
theorem d36_1 : decode jdk_44_method_3_code 1 = .ok (.getfield 24, 3) := by decide +kernel
theorem d36_4 : decode jdk_44_method_3_code 4 = .ok (.getstatic 19, 3) := by decide +kernel
theorem d36_7 : decode jdk_44_method_3_code 7 = .ok (.if_acmp .eq 7, 3) := by decide +kernel
theorem d36_14 : decode jdk_44_method_3_code 14 = .ok (.iconst 1, 1) := by decide +kernel
theorem d36_15 : decode jdk_44_method_3_code 15 = .ok (.ireturn, 1) := by decide +kernel
theorem own_pn36 : plainName "java/util/ImmutableCollections$List12" = true := by first | (simp [plainName, overriddenIn]; done) | decide +kernel
theorem ef_rm_siz1 (m : MethodId) (a0 : Addr) : entryFrame m #[(.ref a0)] 1 = mkF m 0 #[.val (.ref a0)] [] := by first | (simp [entryFrame, mkF, argsToLocals, Value.category]; done) | rfl
def Q_rm_siz1 (Z : State) (a0 : Addr) (we : Addr) (c0 : Addr) (h0 : Heap) (n0 : Nat) (v : Option Value) (h : Heap) (L : List Loc) : Prop := v = some (.int (1 : Int32)) ∧ Fr n0 L ∧ h = h0
set_option maxRecDepth 65536 in
set_option maxHeartbeats 40000000 in
theorem rm_siz1 (l : Launch) (Z : State) (av0 : Array Value) (hw : ∀ d ∈ tables_1, d.before av0 Z = true) (ws : List Jvm.Cond) (a0 : Addr) (we : Addr) (c0 : Addr) (h0 : Heap) (n0 : Nat) (Z0 : n0 ≤ h0.size) (l_0 : Exa Z h0 a0 "java/util/ImmutableCollections$List12") (l_1 : Fld Z h0 a0 "java/util/ImmutableCollections$List12" "e0" "Ljava/lang/Object;" (.ref c0)) (l_2 : Fld Z h0 a0 "java/util/ImmutableCollections$List12" "e1" "Ljava/lang/Object;" (.ref we)) (O_0 : Old Z n0 h0) (S_e : Sta Z Z.heap "java/util/ImmutableCollections" "EMPTY" "Ljava/lang/Object;" (.ref we)) :
    MetFree l (⟨"java/util/ImmutableCollections$List12", "size", "()I"⟩ : MethodName) (head1 (Jvm.Cond.code (⟨"java/util/ImmutableCollections$List12", "size", "()I"⟩ : MethodName) jdk_44_method_3_code 1 (some .int) :: ws) ({ frames := 0, cells := 0, slots := 0, locals := 0 } : Room)) (fun a U => a = #[(.ref a0)] ∧ Z.Warmed39 U.vm ∧ U.heap = h0) (fun _ _ _ _ _ => True) (fun _ U o U' => ∃ v L, o = .returned v ∧ Q_rm_siz1 Z a0 we c0 h0 n0 v U'.heap L ∧ FrameEnd U o U' L ({ frames := 0, cells := 0, slots := 0, locals := 0 } : Room).cells ({ frames := 0, cells := 0, slots := 0, locals := 0 } : Room).slots) := by
  refine MetFree.of_bodySF (plainFor_of_name own_pn36) hisR ?_
  intro p e s m args below meth c s₁ Bd hml0 hP hK
  obtain ⟨rfl, hZ, hh⟩ := hP
  have hx := Bd.exec
  have hby := Bd.bytes
  have hml : c.maxLocals = 1 := hml0
  have hown : s.vm.findClass "java/util/ImmutableCollections$List12" = some m.cls := findClass_of_methodNamed Bd.named
  have hnm := (name_of_methodNamed Bd.named Bd.method).1
  have X0 : Stand p l e ({ frames := 0, cells := 0, slots := 0, locals := 0 } : Room) s m #[(.ref a0)] below meth c s₁ [] 0 0 := Stand.of_body Bd
  have e0 : s₁.heap = h0 := by rw [← hh, Bd.state]; rfl
  have N0 := Fr.nil n0
  refine OGo.by (P := fun U' o => ∃ v L, o = .returned v ∧ Q_rm_siz1 Z a0 we c0 h0 n0 v U'.heap L ∧ FrameEnd s o U' L ({ frames := 0, cells := 0, slots := 0, locals := 0 } : Room).cells ({ frames := 0, cells := 0, slots := 0, locals := 0 } : Room).slots) (fun T_ k_ => castTop (ef_rm_siz1 m a0) k_) ?_
  show OGo p e below _ (s₁.setTop (mkF m 0 #[.val (.ref a0)] []))
  refine OGo.by (fun _ k => XS.aloadN X0.here hx rfl (hb hby d36_0) rfl rfl k) ?_
  show OGo p e below _ (s₁.setTop (mkF m 1 #[.val (.ref a0)] [(.ref a0)]))
  obtain ⟨T1, X1, e1, st1⟩ := getF X0 hx hZ hown (host := "") (Or.inl (hw _ (List.mem_of_getElem? (i := 272) rfl))) Via.refl e0 l_2 (g := (mkF m 1 #[.val (.ref a0)] [(.ref a0)])) rfl rfl (hb hby d36_1)
  refine OGo.by st1 ?_
  show OGo p e below _ (T1.setTop (mkF m 4 #[.val (.ref a0)] [(.ref we)]))
  obtain ⟨T2, X2, e2, st2⟩ := getS2 X1 hx hZ hown (Or.inr (hw _ (List.mem_of_getElem? (i := 271) rfl))) Via.refl e1 (S_e.ext O_0.2) (g := (mkF m 4 #[.val (.ref a0)] [(.ref we)])) rfl (hb hby d36_4)
  refine OGo.by st2 ?_
  show OGo p e below _ (T2.setTop (mkF m 7 #[.val (.ref a0)] [(.ref we), (.ref we)]))
  refine OGo.by (fun _ k => Jvm.RoadKit.acmp (g := (mkF m 7 #[.val (.ref a0)] [(.ref we), (.ref we)])) X2 hx rfl rfl rfl (pc0 := 7) (pc' := 14) (same := true) rfl (hb hby d36_7) rfl (decide_eq_true rfl) (by decide) (by decide) k) ?_
  show OGo p e below _ (T2.setTop (mkF m 14 #[.val (.ref a0)] []))
  refine OGo.by (fun _ k => XS.iconst X2.here hx rfl (hb hby d36_14) k) ?_
  show OGo p e below _ (T2.setTop (mkF m 15 #[.val (.ref a0)] [(.int (1 : Int32))]))
  obtain ⟨fs, hr, hrun, hended, hW, hsame⟩ := X2.leave (v := some (.int (1 : Int32))) (fun h => by rw [Bd.returns] at h; cases h)
  refine OGo.ret (retI X2 hx Bd.returns (hb hby d36_15) hr) hrun hended ⟨_, _, rfl, ?_, ⟨_, rfl⟩, hW, hsame.mono (by decide) (by decide)⟩
  show Q_rm_siz1 Z a0 we c0 h0 n0 _ T2.heap _
  rw [e2]
  exact ⟨rfl, N0, rfl⟩
theorem ef_rm_itr1 (m : MethodId) (a0 : Addr) : entryFrame m #[(.ref a0)] 1 = mkF m 0 #[.val (.ref a0)] [] := by first | (simp [entryFrame, mkF, argsToLocals, Value.category]; done) | rfl
def Q_rm_itr1 (Z : State) (a0 : Addr) (we : Addr) (c0 : Addr) (h0 : Heap) (n0 : Nat) (v : Option Value) (h : Heap) (L : List Loc) : Prop := ∃ b : Addr, v = some (.ref b) ∧ Fr n0 L ∧ Keep h0 h [] ∧ (h0.size ≤ b) ∧ (n0 ≤ b) ∧ (Exa Z h b "java/util/ImmutableCollections$ListItr") ∧ (Fld Z h b "java/util/ImmutableCollections$ListItr" "list" "Ljava/util/List;" (.ref a0)) ∧ (Fld Z h b "java/util/ImmutableCollections$ListItr" "size" "I" (.int (1 : Int32))) ∧ (Fld Z h b "java/util/ImmutableCollections$ListItr" "cursor" "I" (.int (0 : Int32)))
set_option maxRecDepth 65536 in
set_option maxHeartbeats 40000000 in
theorem rm_itr1 (l : Launch) (Z : State) (av0 : Array Value) (hw : ∀ d ∈ tables_1, d.before av0 Z = true) (ws : List Jvm.Cond) (a0 : Addr) (we : Addr) (c0 : Addr) (h0 : Heap) (n0 : Nat) (Z0 : n0 ≤ h0.size) (l_0 : Exa Z h0 a0 "java/util/ImmutableCollections$List12") (l_1 : Fld Z h0 a0 "java/util/ImmutableCollections$List12" "e0" "Ljava/lang/Object;" (.ref c0)) (l_2 : Fld Z h0 a0 "java/util/ImmutableCollections$List12" "e1" "Ljava/lang/Object;" (.ref we)) (O_0 : Old Z n0 h0) (S_e : Sta Z Z.heap "java/util/ImmutableCollections" "EMPTY" "Ljava/lang/Object;" (.ref we)) :
    MetFree l (⟨"java/util/ImmutableCollections$AbstractImmutableList", "iterator", "()Ljava/util/Iterator;"⟩ : MethodName) (head1 (Jvm.Cond.code (⟨"java/util/ImmutableCollections$AbstractImmutableList", "iterator", "()Ljava/util/Iterator;"⟩ : MethodName) jdk_46_method_10_code 1 (some (.object "java/util/Iterator")) :: ws) ({ frames := 2, cells := 1, slots := 4, locals := 27 } : Room)) (fun a U => a = #[(.ref a0)] ∧ Z.Warmed39 U.vm ∧ U.heap = h0) (fun _ _ _ _ _ => True) (fun _ U o U' => ∃ v L, o = .returned v ∧ Q_rm_itr1 Z a0 we c0 h0 n0 v U'.heap L ∧ FrameEnd U o U' L ({ frames := 2, cells := 1, slots := 4, locals := 27 } : Room).cells ({ frames := 2, cells := 1, slots := 4, locals := 27 } : Room).slots) := by
  refine MetFree.of_bodySF (plainFor_of_name own_pn12) hisR ?_
  intro p e s m args below meth c s₁ Bd hml0 hP hK
  obtain ⟨rfl, hZ, hh⟩ := hP
  have hx := Bd.exec
  have hby := Bd.bytes
  have hml : c.maxLocals = 1 := hml0
  have hown : s.vm.findClass "java/util/ImmutableCollections$AbstractImmutableList" = some m.cls := findClass_of_methodNamed Bd.named
  have hnm := (name_of_methodNamed Bd.named Bd.method).1
  have X0 : Stand p l e ({ frames := 2, cells := 1, slots := 4, locals := 27 } : Room) s m #[(.ref a0)] below meth c s₁ [] 0 0 := Stand.of_body Bd
  have e0 : s₁.heap = h0 := by rw [← hh, Bd.state]; rfl
  have N0 := Fr.nil n0
  refine OGo.by (P := fun U' o => ∃ v L, o = .returned v ∧ Q_rm_itr1 Z a0 we c0 h0 n0 v U'.heap L ∧ FrameEnd s o U' L ({ frames := 2, cells := 1, slots := 4, locals := 27 } : Room).cells ({ frames := 2, cells := 1, slots := 4, locals := 27 } : Room).slots) (fun T_ k_ => castTop (ef_rm_itr1 m a0) k_) ?_
  show OGo p e below _ (s₁.setTop (mkF m 0 #[.val (.ref a0)] []))
  obtain ⟨T1, h1, X1, e1, E1, A1, D1, U1, st1⟩ := newO X0 hx hZ hown (hw _ (List.mem_of_getElem? (i := 84) rfl)) (hw _ (List.mem_of_getElem? (i := 85) rfl)) (hw _ (List.mem_of_getElem? (i := 86) rfl)) e0 (g := (mkF m 0 #[.val (.ref a0)] [])) rfl (hb hby d12_0) (by decide) (by decide)
  obtain ⟨b1, g1⟩ : ∃ z, z = h0.size := ⟨_, rfl⟩
  rw [← g1] at A1 D1 U1 st1
  have ne_a0_b1 : a0 ≠ b1 := Nat.ne_of_lt (Nat.lt_of_lt_of_le l_0.lt (Nat.le_of_eq g1.symm))
  have g_b1 : n0 ≤ b1 := Nat.le_trans Z0 (Nat.le_of_eq g1.symm)
  have sz_b1 : h0.size ≤ b1 := Nat.le_trans (Nat.le_refl _) (Nat.le_of_eq g1.symm)
  refine OGo.by st1 ?_
  have K1 : Keep h0 h1 [] := ((Keep.refl h0 [])).ext E1
  have F1_list : Fld Z h1 b1 "java/util/ImmutableCollections$ListItr" "list" "Ljava/util/List;" .null := D1 (Or.inr (hw _ (List.mem_of_getElem? (i := 102) rfl))) (ty := (.object "java/util/List")) (by decide)
  have F1_size : Fld Z h1 b1 "java/util/ImmutableCollections$ListItr" "size" "I" (.int (0 : Int32)) := D1 (Or.inr (hw _ (List.mem_of_getElem? (i := 104) rfl))) (ty := .int) (by decide)
  have F1_cursor : Fld Z h1 b1 "java/util/ImmutableCollections$ListItr" "cursor" "I" (.int (0 : Int32)) := D1 (Or.inl (hw _ (List.mem_of_getElem? (i := 106) rfl))) (ty := .int) (by decide)
  have F1_isListIterator : Fld Z h1 b1 "java/util/ImmutableCollections$ListItr" "isListIterator" "Z" (.int (0 : Int32)) := D1 (Or.inr (hw _ (List.mem_of_getElem? (i := 108) rfl))) (ty := .boolean) (by decide)
  show OGo p e below _ (T1.setTop (mkF m 3 #[.val (.ref a0)] [(.ref b1)]))
  refine OGo.by (fun _ k => XS.dup X1.here hx rfl (hb hby d12_3) rfl rfl k) ?_
  show OGo p e below _ (T1.setTop (mkF m 4 #[.val (.ref a0)] [(.ref b1), (.ref b1)]))
  refine OGo.by (fun _ k => XS.aloadN X1.here hx rfl (hb hby d12_4) rfl rfl k) ?_
  show OGo p e below _ (T1.setTop (mkF m 5 #[.val (.ref a0)] [(.ref a0), (.ref b1), (.ref b1)]))
  refine OGo.by (fun _ k => XS.aloadN X1.here hx rfl (hb hby d12_5) rfl rfl k) ?_
  show OGo p e below _ (T1.setTop (mkF m 6 #[.val (.ref a0)] [(.ref a0), (.ref a0), (.ref b1), (.ref b1)]))
  have f3 : Exa Z h1 a0 "java/util/ImmutableCollections$List12" := (l_0.ext E1)
  have f4 : Fld Z h1 a0 "java/util/ImmutableCollections$List12" "e0" "Ljava/lang/Object;" (.ref c0) := (l_1.ext E1)
  have f5 : Fld Z h1 a0 "java/util/ImmutableCollections$List12" "e1" "Ljava/lang/Object;" (.ref we) := (l_2.ext E1)
  have f6 : Old Z n0 h1 := (O_0.ext E1)
  obtain ⟨cq2, kq2, q2a, q2b, q2c⟩ := isOf hZ e1 f3
  obtain ⟨_, _, ⟨T2, L2, k2, n2⟩, -, X2, ⟨Lc2, hQ2, l2, y2, z2⟩, st2⟩ := X1.virtualBackUp hx (owner := "java/util/AbstractCollection") (x := (⟨"java/util/ImmutableCollections$AbstractImmutableList", "size", "()I"⟩ : MethodName)) (y := (⟨"java/util/ImmutableCollections$List12", "size", "()I"⟩ : MethodName)) hown (mvT hZ (hw _ (List.mem_of_getElem? (i := 87) rfl))) (mvT hZ (hw _ (List.mem_of_getElem? (i := 88) rfl))) (mvT hZ (hw _ (List.mem_of_getElem? (i := 89) rfl))) (by decide) (mvT hZ (hw _ (List.mem_of_getElem? (i := 277) rfl))) (mvT hZ (hw _ (List.mem_of_getElem? (i := 278) rfl))) (backOf (W := 3) (rm_siz1 l Z av0 hw [] a0 we c0 h1 n0 (Nat.le_trans Z0 K1.1) f3 f4 f5 f6 S_e) hZ (hw _ (List.mem_of_getElem? (i := 279) rfl)) (hw _ (List.mem_of_getElem? (i := 259) rfl)) (by decide) (by decide)) q2a q2c (g := (mkF m 6 #[.val (.ref a0)] [(.ref a0), (.ref a0), (.ref b1), (.ref b1)])) rfl (by rw [hml]; rfl) (Steps.refl _) (argsL := []) (rest := [(.ref a0), (.ref b1), (.ref b1)]) (lenOf own_pd15 rfl) rfl (by show 2 * 0 + _ ≤ _; exact Nat.le_of_eq rfl) (hb hby d12_6) (fun _ _ => ⟨rfl, e1, (by decide : 1 + 0 ≤ _), (by decide : 4 + 0 ≤ _)⟩)
  dsimp only [Pt.U, Pt.locs, Pt.cells, Pt.slots] at X2 l2 y2 z2 st2 hQ2
  subst l2 y2 z2
  obtain ⟨rfl, N2q, e2⟩ := hQ2
  have N2 := Fr.app N0 N2q
  refine OGo.of st2 ?_
  show OGo p e below _ (T2.setTop (mkF m 9 #[.val (.ref a0)] [(.int (1 : Int32)), (.ref a0), (.ref b1), (.ref b1)]))
  obtain ⟨_, _, ⟨T7, L7, k7, n7⟩, -, X7, ⟨Lc7, hQ7, l7, y7, z7⟩, st7⟩ := X2.specialBack hx (y := (⟨"java/util/ImmutableCollections$ListItr", "<init>", "(Ljava/util/List;I)V"⟩ : MethodName)) rfl hown (mvT hZ (hw _ (List.mem_of_getElem? (i := 96) rfl))) (mvT hZ (hw _ (List.mem_of_getElem? (i := 97) rfl))) (mvT hZ (hw _ (List.mem_of_getElem? (i := 99) rfl))) (by decide) (backOf (W := 1) (rm14 l Z av0 hw [] b1 a0 (1 : Int32) h1 n0 (Nat.le_trans Z0 K1.1) A1 F1_list F1_size F1_cursor F1_isListIterator g_b1) hZ (hw _ (List.mem_of_getElem? (i := 99) rfl)) (hw _ (List.mem_of_getElem? (i := 86) rfl)) (by decide) (by decide)) (g := (mkF m 9 #[.val (.ref a0)] [(.int (1 : Int32)), (.ref a0), (.ref b1), (.ref b1)])) rfl (by rw [hml]; rfl) (Steps.refl _) (a := b1) (argsL := [(.ref a0), (.int (1 : Int32))]) (rest := [(.ref b1)]) (lenOf own_pd16 rfl) rfl (by show 2 * 0 + _ ≤ _; exact Nat.le_of_eq rfl) (hb hby d12_9) (fun _ _ => ⟨rfl, e2, (by decide : 1 + 0 ≤ _), (by decide : 4 + 0 ≤ _)⟩)
  dsimp only [Pt.U, Pt.locs, Pt.cells, Pt.slots] at X7 l7 y7 z7 st7 hQ7
  subst l7 y7 z7
  obtain ⟨rfl, N7q, Kc7, G7_0, G7_1, G7_2, G7_3⟩ := hQ7
  have N7 := Fr.app N2 N7q
  have K7 : Keep h0 T7.heap [] := (K1).trans Kc7 (allS (P := fun x => x ∈ ([] : List Addr) ∨ h0.size ≤ x) (Or.inr sz_b1) (all0 (P := fun x => x ∈ ([] : List Addr) ∨ h0.size ≤ x)))
  refine OGo.of st7 ?_
  show OGo p e below _ (T7.setTop (mkF m 12 #[.val (.ref a0)] [(.ref b1)]))
  obtain ⟨fs, hr, hrun, hended, hW, hsame⟩ := X7.leave (v := some (.ref b1)) (fun h => by rw [Bd.returns] at h; cases h)
  refine OGo.ret (retOut X7 hx Bd.returns rfl (Or.inr (Or.inr (Or.inr (Or.inr ⟨rfl, rfl, rfl⟩)))) (hb hby d12_12) hr) hrun hended ⟨_, _, rfl, ?_, ⟨_, rfl⟩, hW, hsame.mono (by decide) (by decide)⟩
  show Q_rm_itr1 Z a0 we c0 h0 n0 _ T7.heap _
  exact ⟨b1, rfl, N7, K7, sz_b1, g_b1, G7_0, G7_1, G7_2, G7_3⟩
theorem d15_11 : decode jdk_53_method_3_code 11 = .ok (.iconst 1, 1) := by decide +kernel
theorem d15_12 : decode jdk_53_method_3_code 12 = .ok (.goto 4, 3) := by decide +kernel
theorem ef_rm_hn1_0 (m : MethodId) (a0 : Addr) : entryFrame m #[(.ref a0)] 1 = mkF m 0 #[.val (.ref a0)] [] := by first | (simp [entryFrame, mkF, argsToLocals, Value.category]; done) | rfl
def Q_rm_hn1_0 (Z : State) (a0 : Addr) (h0 : Heap) (n0 : Nat) (v : Option Value) (h : Heap) (L : List Loc) : Prop := v = some (.int (1 : Int32)) ∧ Fr n0 L ∧ h = h0
set_option maxRecDepth 65536 in
set_option maxHeartbeats 40000000 in
theorem rm_hn1_0 (l : Launch) (Z : State) (av0 : Array Value) (hw : ∀ d ∈ tables_1, d.before av0 Z = true) (ws : List Jvm.Cond) (a0 : Addr) (h0 : Heap) (n0 : Nat) (Z0 : n0 ≤ h0.size) (F1 : Fld Z h0 a0 "java/util/ImmutableCollections$ListItr" "size" "I" (.int (1 : Int32))) (F2 : Fld Z h0 a0 "java/util/ImmutableCollections$ListItr" "cursor" "I" (.int (0 : Int32))) :
    MetFree l (⟨"java/util/ImmutableCollections$ListItr", "hasNext", "()Z"⟩ : MethodName) (head1 (Jvm.Cond.code (⟨"java/util/ImmutableCollections$ListItr", "hasNext", "()Z"⟩ : MethodName) jdk_53_method_3_code 1 (some .boolean) :: ws) ({ frames := 0, cells := 0, slots := 0, locals := 0 } : Room)) (fun a U => a = #[(.ref a0)] ∧ Z.Warmed39 U.vm ∧ U.heap = h0) (fun _ _ _ _ _ => True) (fun _ U o U' => ∃ v L, o = .returned v ∧ Q_rm_hn1_0 Z a0 h0 n0 v U'.heap L ∧ FrameEnd U o U' L ({ frames := 0, cells := 0, slots := 0, locals := 0 } : Room).cells ({ frames := 0, cells := 0, slots := 0, locals := 0 } : Room).slots) := by
  refine MetFree.of_bodySF (plainFor_of_name own_pn15) hisR ?_
  intro p e s m args below meth c s₁ Bd hml0 hP hK
  obtain ⟨rfl, hZ, hh⟩ := hP
  have hx := Bd.exec
  have hby := Bd.bytes
  have hml : c.maxLocals = 1 := hml0
  have hown : s.vm.findClass "java/util/ImmutableCollections$ListItr" = some m.cls := findClass_of_methodNamed Bd.named
  have hnm := (name_of_methodNamed Bd.named Bd.method).1
  have X0 : Stand p l e ({ frames := 0, cells := 0, slots := 0, locals := 0 } : Room) s m #[(.ref a0)] below meth c s₁ [] 0 0 := Stand.of_body Bd
  have e0 : s₁.heap = h0 := by rw [← hh, Bd.state]; rfl
  have N0 := Fr.nil n0
  refine OGo.by (P := fun U' o => ∃ v L, o = .returned v ∧ Q_rm_hn1_0 Z a0 h0 n0 v U'.heap L ∧ FrameEnd s o U' L ({ frames := 0, cells := 0, slots := 0, locals := 0 } : Room).cells ({ frames := 0, cells := 0, slots := 0, locals := 0 } : Room).slots) (fun T_ k_ => castTop (ef_rm_hn1_0 m a0) k_) ?_
  show OGo p e below _ (s₁.setTop (mkF m 0 #[.val (.ref a0)] []))
  refine OGo.by (fun _ k => XS.aloadN X0.here hx rfl (hb hby d15_0) rfl rfl k) ?_
  show OGo p e below _ (s₁.setTop (mkF m 1 #[.val (.ref a0)] [(.ref a0)]))
  obtain ⟨T1, X1, e1, st1⟩ := getF X0 hx hZ hown (host := "") (Or.inl (hw _ (List.mem_of_getElem? (i := 105) rfl))) Via.refl e0 F2 (g := (mkF m 1 #[.val (.ref a0)] [(.ref a0)])) rfl rfl (hb hby d15_1)
  refine OGo.by st1 ?_
  show OGo p e below _ (T1.setTop (mkF m 4 #[.val (.ref a0)] [(.int (0 : Int32))]))
  refine OGo.by (fun _ k => XS.aloadN X1.here hx rfl (hb hby d15_4) rfl rfl k) ?_
  show OGo p e below _ (T1.setTop (mkF m 5 #[.val (.ref a0)] [(.ref a0), (.int (0 : Int32))]))
  obtain ⟨T2, X2, e2, st2⟩ := getF X1 hx hZ hown (host := "") (Or.inl (hw _ (List.mem_of_getElem? (i := 103) rfl))) Via.refl e1 F1 (g := (mkF m 5 #[.val (.ref a0)] [(.ref a0), (.int (0 : Int32))])) rfl rfl (hb hby d15_5)
  refine OGo.by st2 ?_
  show OGo p e below _ (T2.setTop (mkF m 8 #[.val (.ref a0)] [(.int (1 : Int32)), (.int (0 : Int32))]))
  refine OGo.by (fun _ k => XS.icmpNo X2.here hx rfl (hb hby d15_8) rfl (feq (by decide : ¬ ((0 : Int32) = (1 : Int32)))).1 k) ?_
  show OGo p e below _ (T2.setTop (mkF m 11 #[.val (.ref a0)] []))
  refine OGo.by (fun _ k => XS.iconst X2.here hx rfl (hb hby d15_11) k) ?_
  show OGo p e below _ (T2.setTop (mkF m 12 #[.val (.ref a0)] [(.int (1 : Int32))]))
  refine OGo.by (fun _ k => XS.goto X2.here hx rfl (pc0 := 12) (pc' := 16) rfl (hb hby d15_12) (by decide) (by decide) k) ?_
  show OGo p e below _ (T2.setTop (mkF m 16 #[.val (.ref a0)] [(.int (1 : Int32))]))
  obtain ⟨fs, hr, hrun, hended, hW, hsame⟩ := X2.leave (v := some (.int (1 : Int32))) (fun h => by rw [Bd.returns] at h; cases h)
  refine OGo.ret (retN X2 hx (t := .boolean) Bd.returns (by simp) (hb hby d15_16) hr) hrun hended ⟨_, _, rfl, ?_, ⟨_, rfl⟩, hW, hsame.mono (by decide) (by decide)⟩
  show Q_rm_hn1_0 Z a0 h0 n0 _ T2.heap _
  rw [e2]
  exact ⟨rfl, N0, rfl⟩
theorem d37_0 : decode jdk_44_method_5_code 0 = .ok (.iload_n 1, 1) := by decide +kernel
theorem d37_1 : decode jdk_44_method_5_code 1 = .ok (.ifCond .ne 8, 3) := by decide +kernel
theorem d37_4 : decode jdk_44_method_5_code 4 = .ok (.aload_n 0, 1) := by decide +kernel
theorem d37_5 : decode jdk_44_method_5_code 5 = .ok (.getfield 13, 3) := by decide +kernel
theorem d37_8 : decode jdk_44_method_5_code 8 = .ok (.areturn, 1) := by decide +kernel
theorem own_pn37 : plainName "java/util/ImmutableCollections$List12" = true := by first | (simp [plainName, overriddenIn]; done) | decide +kernel
theorem ef_rm_get1_0 (m : MethodId) (a0 : Addr) (we : Addr) (c0 : Addr) : entryFrame m #[(.ref a0), (.int (0 : Int32))] 2 = mkF m 0 #[.val (.ref a0), .val (.int (0 : Int32))] [] := by first | (simp [entryFrame, mkF, argsToLocals, Value.category]; done) | rfl
def Q_rm_get1_0 (Z : State) (a0 : Addr) (we : Addr) (c0 : Addr) (h0 : Heap) (n0 : Nat) (v : Option Value) (h : Heap) (L : List Loc) : Prop := v = some (.ref c0) ∧ Fr n0 L ∧ h = h0
set_option maxRecDepth 65536 in
set_option maxHeartbeats 40000000 in
theorem rm_get1_0 (l : Launch) (Z : State) (av0 : Array Value) (hw : ∀ d ∈ tables_1, d.before av0 Z = true) (ws : List Jvm.Cond) (a0 : Addr) (we : Addr) (c0 : Addr) (h0 : Heap) (n0 : Nat) (Z0 : n0 ≤ h0.size) (l_0 : Exa Z h0 a0 "java/util/ImmutableCollections$List12") (l_1 : Fld Z h0 a0 "java/util/ImmutableCollections$List12" "e0" "Ljava/lang/Object;" (.ref c0)) (l_2 : Fld Z h0 a0 "java/util/ImmutableCollections$List12" "e1" "Ljava/lang/Object;" (.ref we)) (O_0 : Old Z n0 h0) (S_e : Sta Z Z.heap "java/util/ImmutableCollections" "EMPTY" "Ljava/lang/Object;" (.ref we)) :
    MetFree l (⟨"java/util/ImmutableCollections$List12", "get", "(I)Ljava/lang/Object;"⟩ : MethodName) (head1 (Jvm.Cond.code (⟨"java/util/ImmutableCollections$List12", "get", "(I)Ljava/lang/Object;"⟩ : MethodName) jdk_44_method_5_code 2 (some (.object "java/lang/Object")) :: ws) ({ frames := 0, cells := 0, slots := 0, locals := 0 } : Room)) (fun a U => a = #[(.ref a0), (.int (0 : Int32))] ∧ Z.Warmed39 U.vm ∧ U.heap = h0) (fun _ _ _ _ _ => True) (fun _ U o U' => ∃ v L, o = .returned v ∧ Q_rm_get1_0 Z a0 we c0 h0 n0 v U'.heap L ∧ FrameEnd U o U' L ({ frames := 0, cells := 0, slots := 0, locals := 0 } : Room).cells ({ frames := 0, cells := 0, slots := 0, locals := 0 } : Room).slots) := by
  refine MetFree.of_bodySF (plainFor_of_name own_pn37) hisR ?_
  intro p e s m args below meth c s₁ Bd hml0 hP hK
  obtain ⟨rfl, hZ, hh⟩ := hP
  have hx := Bd.exec
  have hby := Bd.bytes
  have hml : c.maxLocals = 2 := hml0
  have hown : s.vm.findClass "java/util/ImmutableCollections$List12" = some m.cls := findClass_of_methodNamed Bd.named
  have hnm := (name_of_methodNamed Bd.named Bd.method).1
  have X0 : Stand p l e ({ frames := 0, cells := 0, slots := 0, locals := 0 } : Room) s m #[(.ref a0), (.int (0 : Int32))] below meth c s₁ [] 0 0 := Stand.of_body Bd
  have e0 : s₁.heap = h0 := by rw [← hh, Bd.state]; rfl
  have N0 := Fr.nil n0
  refine OGo.by (P := fun U' o => ∃ v L, o = .returned v ∧ Q_rm_get1_0 Z a0 we c0 h0 n0 v U'.heap L ∧ FrameEnd s o U' L ({ frames := 0, cells := 0, slots := 0, locals := 0 } : Room).cells ({ frames := 0, cells := 0, slots := 0, locals := 0 } : Room).slots) (fun T_ k_ => castTop (ef_rm_get1_0 m a0 we c0) k_) ?_
  show OGo p e below _ (s₁.setTop (mkF m 0 #[.val (.ref a0), .val (.int (0 : Int32))] []))
  refine OGo.by (fun _ k => XS.iloadN X0.here hx rfl (hb hby d37_0) rfl k) ?_
  show OGo p e below _ (s₁.setTop (mkF m 1 #[.val (.ref a0), .val (.int (0 : Int32))] [(.int (0 : Int32))]))
  refine OGo.by (fun _ k => XS.ifNo X0.here hx rfl (hb hby d37_1) rfl ((if0 _ _).trans (teq (by decide : (0 : Int32) = (0 : Int32))).2) k) ?_
  show OGo p e below _ (s₁.setTop (mkF m 4 #[.val (.ref a0), .val (.int (0 : Int32))] []))
  refine OGo.by (fun _ k => XS.aloadN X0.here hx rfl (hb hby d37_4) rfl rfl k) ?_
  show OGo p e below _ (s₁.setTop (mkF m 5 #[.val (.ref a0), .val (.int (0 : Int32))] [(.ref a0)]))
  obtain ⟨T1, X1, e1, st1⟩ := getF X0 hx hZ hown (host := "") (Or.inl (hw _ (List.mem_of_getElem? (i := 269) rfl))) Via.refl e0 l_1 (g := (mkF m 5 #[.val (.ref a0), .val (.int (0 : Int32))] [(.ref a0)])) rfl rfl (hb hby d37_5)
  refine OGo.by st1 ?_
  show OGo p e below _ (T1.setTop (mkF m 8 #[.val (.ref a0), .val (.int (0 : Int32))] [(.ref c0)]))
  obtain ⟨fs, hr, hrun, hended, hW, hsame⟩ := X1.leave (v := some (.ref c0)) (fun h => by rw [Bd.returns] at h; cases h)
  refine OGo.ret (retOut X1 hx Bd.returns rfl (Or.inr (Or.inr (Or.inr (Or.inr ⟨rfl, rfl, rfl⟩)))) (hb hby d37_8) hr) hrun hended ⟨_, _, rfl, ?_, ⟨_, rfl⟩, hW, hsame.mono (by decide) (by decide)⟩
  show Q_rm_get1_0 Z a0 we c0 h0 n0 _ T1.heap _
  rw [e1]
  exact ⟨rfl, N0, rfl⟩
theorem d32_0 : decode jdk_53_method_4_code 0 = .ok (.aload_n 0, 1) := by decide +kernel
theorem d32_1 : decode jdk_53_method_4_code 1 = .ok (.getfield 17, 3) := by decide +kernel
theorem d32_4 : decode jdk_53_method_4_code 4 = .ok (.istore_n 1, 1) := by decide +kernel
theorem d32_5 : decode jdk_53_method_4_code 5 = .ok (.aload_n 0, 1) := by decide +kernel
theorem d32_6 : decode jdk_53_method_4_code 6 = .ok (.getfield 7, 3) := by decide +kernel
theorem d32_9 : decode jdk_53_method_4_code 9 = .ok (.iload_n 1, 1) := by decide +kernel
theorem d32_10 : decode jdk_53_method_4_code 10 = .ok (.invokeinterface 24 2, 5) := by decide +kernel
theorem own_pd18 : parseMethodDescriptor "(I)Ljava/lang/Object;" = some ⟨[.int], some (.object "java/lang/Object")⟩ := by decide +kernel
theorem d32_15 : decode jdk_53_method_4_code 15 = .ok (.astore_n 2, 1) := by decide +kernel
theorem d32_16 : decode jdk_53_method_4_code 16 = .ok (.aload_n 0, 1) := by decide +kernel
theorem d32_17 : decode jdk_53_method_4_code 17 = .ok (.iload_n 1, 1) := by decide +kernel
theorem d32_18 : decode jdk_53_method_4_code 18 = .ok (.iconst 1, 1) := by decide +kernel
theorem d32_19 : decode jdk_53_method_4_code 19 = .ok (.iadd, 1) := by decide +kernel
theorem d32_20 : decode jdk_53_method_4_code 20 = .ok (.putfield 17, 3) := by decide +kernel
theorem d32_23 : decode jdk_53_method_4_code 23 = .ok (.aload_n 2, 1) := by decide +kernel
theorem d32_24 : decode jdk_53_method_4_code 24 = .ok (.areturn, 1) := by decide +kernel
theorem own_pn32 : plainName "java/util/ImmutableCollections$ListItr" = true := by first | (simp [plainName, overriddenIn]; done) | decide +kernel
theorem ef_rm_nx1_0 (m : MethodId) (a0 : Addr) : entryFrame m #[(.ref a0)] 3 = mkF m 0 #[.val (.ref a0), .unset, .unset] [] := by first | (simp [entryFrame, mkF, argsToLocals, Value.category]; done) | rfl
def Q_rm_nx1_0 (Z : State) (a0 : Addr) (li : Addr) (we : Addr) (c0 : Addr) (h0 : Heap) (n0 : Nat) (v : Option Value) (h : Heap) (L : List Loc) : Prop := v = some (.ref c0) ∧ Fr n0 L ∧ Keep h0 h [a0] ∧ (Exa Z h a0 "java/util/ImmutableCollections$ListItr") ∧ (Fld Z h a0 "java/util/ImmutableCollections$ListItr" "list" "Ljava/util/List;" (.ref li)) ∧ (Fld Z h a0 "java/util/ImmutableCollections$ListItr" "size" "I" (.int (1 : Int32))) ∧ (Fld Z h a0 "java/util/ImmutableCollections$ListItr" "cursor" "I" (.int (1 : Int32)))
set_option maxRecDepth 65536 in
set_option maxHeartbeats 40000000 in
theorem rm_nx1_0 (l : Launch) (Z : State) (av0 : Array Value) (hw : ∀ d ∈ tables_1, d.before av0 Z = true) (ws : List Jvm.Cond) (a0 : Addr) (li : Addr) (we : Addr) (c0 : Addr) (h0 : Heap) (n0 : Nat) (Z0 : n0 ≤ h0.size) (E0 : Exa Z h0 a0 "java/util/ImmutableCollections$ListItr") (F0 : Fld Z h0 a0 "java/util/ImmutableCollections$ListItr" "list" "Ljava/util/List;" (.ref li)) (F1 : Fld Z h0 a0 "java/util/ImmutableCollections$ListItr" "size" "I" (.int (1 : Int32))) (F2 : Fld Z h0 a0 "java/util/ImmutableCollections$ListItr" "cursor" "I" (.int (0 : Int32))) (g_a0 : n0 ≤ a0) (l_0 : Exa Z h0 li "java/util/ImmutableCollections$List12") (l_1 : Fld Z h0 li "java/util/ImmutableCollections$List12" "e0" "Ljava/lang/Object;" (.ref c0)) (l_2 : Fld Z h0 li "java/util/ImmutableCollections$List12" "e1" "Ljava/lang/Object;" (.ref we)) (O_0 : Old Z n0 h0) (S_e : Sta Z Z.heap "java/util/ImmutableCollections" "EMPTY" "Ljava/lang/Object;" (.ref we)) :
    MetFree l (⟨"java/util/ImmutableCollections$ListItr", "next", "()Ljava/lang/Object;"⟩ : MethodName) (head1 (Jvm.Cond.codeWith (⟨"java/util/ImmutableCollections$ListItr", "next", "()Ljava/lang/Object;"⟩ : MethodName) jdk_53_method_4_code 3 (some (.object "java/lang/Object")) [(0, 24, 25, 30)] :: ws) ({ frames := 1, cells := 0, slots := 0, locals := 13 } : Room)) (fun a U => a = #[(.ref a0)] ∧ Z.Warmed39 U.vm ∧ U.heap = h0) (fun _ _ _ _ _ => True) (fun _ U o U' => ∃ v L, o = .returned v ∧ Q_rm_nx1_0 Z a0 li we c0 h0 n0 v U'.heap L ∧ FrameEnd U o U' L ({ frames := 1, cells := 0, slots := 0, locals := 13 } : Room).cells ({ frames := 1, cells := 0, slots := 0, locals := 13 } : Room).slots) := by
  refine MetFree.of_bodySF (plainFor_of_name own_pn32) hisWith ?_
  intro p e s m args below meth c s₁ Bd hml0 hP hK
  obtain ⟨rfl, hZ, hh⟩ := hP
  have hx := Bd.exec
  have hby := Bd.bytes
  have hml : c.maxLocals = 3 := hml0
  have hown : s.vm.findClass "java/util/ImmutableCollections$ListItr" = some m.cls := findClass_of_methodNamed Bd.named
  have hnm := (name_of_methodNamed Bd.named Bd.method).1
  have X0 : Stand p l e ({ frames := 1, cells := 0, slots := 0, locals := 13 } : Room) s m #[(.ref a0)] below meth c s₁ [] 0 0 := Stand.of_body Bd
  have e0 : s₁.heap = h0 := by rw [← hh, Bd.state]; rfl
  have N0 := Fr.nil n0
  refine OGo.by (P := fun U' o => ∃ v L, o = .returned v ∧ Q_rm_nx1_0 Z a0 li we c0 h0 n0 v U'.heap L ∧ FrameEnd s o U' L ({ frames := 1, cells := 0, slots := 0, locals := 13 } : Room).cells ({ frames := 1, cells := 0, slots := 0, locals := 13 } : Room).slots) (fun T_ k_ => castTop (ef_rm_nx1_0 m a0) k_) ?_
  show OGo p e below _ (s₁.setTop (mkF m 0 #[.val (.ref a0), .unset, .unset] []))
  refine OGo.by (fun _ k => XS.aloadN X0.here hx rfl (hb hby d32_0) rfl rfl k) ?_
  show OGo p e below _ (s₁.setTop (mkF m 1 #[.val (.ref a0), .unset, .unset] [(.ref a0)]))
  obtain ⟨T1, X1, e1, st1⟩ := getF X0 hx hZ hown (host := "") (Or.inl (hw _ (List.mem_of_getElem? (i := 105) rfl))) Via.refl e0 F2 (g := (mkF m 1 #[.val (.ref a0), .unset, .unset] [(.ref a0)])) rfl rfl (hb hby d32_1)
  refine OGo.by st1 ?_
  show OGo p e below _ (T1.setTop (mkF m 4 #[.val (.ref a0), .unset, .unset] [(.int (0 : Int32))]))
  refine OGo.by (fun _ k => XS.istoreN X1.here hx rfl (hb hby d32_4) rfl (l' := #[.val (.ref a0), .val (.int (0 : Int32)), .unset]) rfl k) ?_
  show OGo p e below _ (T1.setTop (mkF m 5 #[.val (.ref a0), .val (.int (0 : Int32)), .unset] []))
  refine OGo.by (fun _ k => XS.aloadN X1.here hx rfl (hb hby d32_5) rfl rfl k) ?_
  show OGo p e below _ (T1.setTop (mkF m 6 #[.val (.ref a0), .val (.int (0 : Int32)), .unset] [(.ref a0)]))
  obtain ⟨T2, X2, e2, st2⟩ := getF X1 hx hZ hown (host := "") (Or.inl (hw _ (List.mem_of_getElem? (i := 101) rfl))) Via.refl e1 F0 (g := (mkF m 6 #[.val (.ref a0), .val (.int (0 : Int32)), .unset] [(.ref a0)])) rfl rfl (hb hby d32_6)
  refine OGo.by st2 ?_
  show OGo p e below _ (T2.setTop (mkF m 9 #[.val (.ref a0), .val (.int (0 : Int32)), .unset] [(.ref li)]))
  refine OGo.by (fun _ k => XS.iloadN X2.here hx rfl (hb hby d32_9) rfl k) ?_
  show OGo p e below _ (T2.setTop (mkF m 10 #[.val (.ref a0), .val (.int (0 : Int32)), .unset] [(.int (0 : Int32)), (.ref li)]))
  obtain ⟨cq3, kq3, q3a, q3b, q3c⟩ := isOf hZ e2 l_0
  obtain ⟨_, _, ⟨T3, L3, k3, n3⟩, -, X3, ⟨Lc3, hQ3, l3, y3, z3⟩, st3⟩ := X2.interfaceBack hx (xi := (⟨"java/util/List", "get", "(I)Ljava/lang/Object;"⟩ : MethodName)) (y := (⟨"java/util/ImmutableCollections$List12", "get", "(I)Ljava/lang/Object;"⟩ : MethodName)) hown (mvT hZ (hw _ (List.mem_of_getElem? (i := 242) rfl))) (mvT hZ (hw _ (List.mem_of_getElem? (i := 243) rfl))) (mvT hZ (hw _ (List.mem_of_getElem? (i := 244) rfl))) (mvT hZ (hw _ (List.mem_of_getElem? (i := 280) rfl))) (mvT hZ (hw _ (List.mem_of_getElem? (i := 281) rfl))) (mvT hZ (hw _ (List.mem_of_getElem? (i := 282) rfl))) (mvT hZ (hw _ (List.mem_of_getElem? (i := 283) rfl))) (mvT hZ (hw _ (List.mem_of_getElem? (i := 276) rfl))) (by decide) (backOf (W := 0) (rm_get1_0 l Z av0 hw [] li we c0 h0 n0 Z0 l_0 l_1 l_2 O_0 S_e) hZ (hw _ (List.mem_of_getElem? (i := 284) rfl)) (hw _ (List.mem_of_getElem? (i := 259) rfl)) (by decide) (by decide)) q3a q3b q3c (g := (mkF m 10 #[.val (.ref a0), .val (.int (0 : Int32)), .unset] [(.int (0 : Int32)), (.ref li)])) rfl (by rw [hml]; rfl) (Steps.refl _) (argsL := [(.int (0 : Int32))]) (rest := []) (lenOf own_pd18 rfl) rfl (by show 2 * 0 + _ ≤ _; exact Nat.le_of_eq rfl) (hb hby d32_10) (fun _ _ => ⟨rfl, e2, (by decide : 0 + 0 ≤ _), (by decide : 0 + 0 ≤ _)⟩)
  dsimp only [Pt.U, Pt.locs, Pt.cells, Pt.slots] at X3 l3 y3 z3 st3 hQ3
  subst l3 y3 z3
  obtain ⟨rfl, N3q, e3⟩ := hQ3
  have N3 := Fr.app N0 N3q
  refine OGo.of st3 ?_
  show OGo p e below _ (T3.setTop (mkF m 15 #[.val (.ref a0), .val (.int (0 : Int32)), .unset] [(.ref c0)]))
  refine OGo.by (fun _ k => XS.astoreN X3.here hx rfl (hb hby d32_15) rfl rfl (l' := #[.val (.ref a0), .val (.int (0 : Int32)), .val (.ref c0)]) rfl k) ?_
  show OGo p e below _ (T3.setTop (mkF m 16 #[.val (.ref a0), .val (.int (0 : Int32)), .val (.ref c0)] []))
  refine OGo.by (fun _ k => XS.aloadN X3.here hx rfl (hb hby d32_16) rfl rfl k) ?_
  show OGo p e below _ (T3.setTop (mkF m 17 #[.val (.ref a0), .val (.int (0 : Int32)), .val (.ref c0)] [(.ref a0)]))
  refine OGo.by (fun _ k => XS.iloadN X3.here hx rfl (hb hby d32_17) rfl k) ?_
  show OGo p e below _ (T3.setTop (mkF m 18 #[.val (.ref a0), .val (.int (0 : Int32)), .val (.ref c0)] [(.int (0 : Int32)), (.ref a0)]))
  refine OGo.by (fun _ k => XS.iconst X3.here hx rfl (hb hby d32_18) k) ?_
  show OGo p e below _ (T3.setTop (mkF m 19 #[.val (.ref a0), .val (.int (0 : Int32)), .val (.ref c0)] [(.int (1 : Int32)), (.int (0 : Int32)), (.ref a0)]))
  refine OGo.by (fun _ k => XS.iadd X3.here hx rfl (hb hby d32_19) rfl k) ?_
  show OGo p e below _ (T3.setTop (mkF m 20 #[.val (.ref a0), .val (.int (0 : Int32)), .val (.ref c0)] [(.int (1 : Int32)), (.ref a0)]))
  obtain ⟨T4, h4, X4, e4, W4, st4⟩ := putF X3 hx hZ hown (host := "") (Or.inl (hw _ (List.mem_of_getElem? (i := 105) rfl))) Via.refl e3 F2 E0 (Or.inl (hw _ (List.mem_of_getElem? (i := 106) rfl))) (hw _ (List.mem_of_getElem? (i := 85) rfl)) (ty := .int) (by decide) rfl rfl (g := (mkF m 20 #[.val (.ref a0), .val (.int (0 : Int32)), .val (.ref c0)] [(.int (1 : Int32)), (.ref a0)])) rfl rfl (hb hby d32_20)
  refine OGo.by st4 ?_
  have Fw4 := F2.same W4
  have N4 := Fr.snoc X4 N3 g_a0
  have K4 : Keep h0 h4 [a0] := ((Keep.refl h0 [a0])).wr W4 (Or.inl (List.mem_of_getElem? (i := 0) rfl))
  show OGo p e below _ (T4.setTop (mkF m 23 #[.val (.ref a0), .val (.int (0 : Int32)), .val (.ref c0)] []))
  refine OGo.by (fun _ k => XS.aloadN X4.here hx rfl (hb hby d32_23) rfl rfl k) ?_
  show OGo p e below _ (T4.setTop (mkF m 24 #[.val (.ref a0), .val (.int (0 : Int32)), .val (.ref c0)] [(.ref c0)]))
  obtain ⟨fs, hr, hrun, hended, hW, hsame⟩ := X4.leave (v := some (.ref c0)) (fun h => by rw [Bd.returns] at h; cases h)
  refine OGo.ret (retOut X4 hx Bd.returns rfl (Or.inr (Or.inr (Or.inr (Or.inr ⟨rfl, rfl, rfl⟩)))) (hb hby d32_24) hr) hrun hended ⟨_, _, rfl, ?_, ⟨_, rfl⟩, hW, hsame.mono (by decide) (by decide)⟩
  show Q_rm_nx1_0 Z a0 li we c0 h0 n0 _ T4.heap _
  rw [e4]
  have f5 : Exa Z h4 a0 "java/util/ImmutableCollections$ListItr" := (E0.wr W4)
  have f6 : Fld Z h4 a0 "java/util/ImmutableCollections$ListItr" "list" "Ljava/util/List;" (.ref li) := (F0.other W4 (Or.inr (slot_ne (Or.inr (hw _ (List.mem_of_getElem? (i := 102) rfl))) (Or.inl (hw _ (List.mem_of_getElem? (i := 106) rfl))) (by decide) (t := (.object "java/util/List")) (t' := .int) (by decide) (by decide))))
  have f7 : Fld Z h4 a0 "java/util/ImmutableCollections$ListItr" "size" "I" (.int (1 : Int32)) := (F1.other W4 (Or.inr (slot_ne (Or.inr (hw _ (List.mem_of_getElem? (i := 104) rfl))) (Or.inl (hw _ (List.mem_of_getElem? (i := 106) rfl))) (by decide) (t := .int) (t' := .int) (by decide) (by decide))))
  exact ⟨rfl, N4, K4, f5, f6, f7, Fw4⟩
theorem ef_rm_hn1_1 (m : MethodId) (a0 : Addr) : entryFrame m #[(.ref a0)] 1 = mkF m 0 #[.val (.ref a0)] [] := by first | (simp [entryFrame, mkF, argsToLocals, Value.category]; done) | rfl
def Q_rm_hn1_1 (Z : State) (a0 : Addr) (h0 : Heap) (n0 : Nat) (v : Option Value) (h : Heap) (L : List Loc) : Prop := v = some (.int (0 : Int32)) ∧ Fr n0 L ∧ h = h0
set_option maxRecDepth 65536 in
set_option maxHeartbeats 40000000 in
theorem rm_hn1_1 (l : Launch) (Z : State) (av0 : Array Value) (hw : ∀ d ∈ tables_1, d.before av0 Z = true) (ws : List Jvm.Cond) (a0 : Addr) (h0 : Heap) (n0 : Nat) (Z0 : n0 ≤ h0.size) (F1 : Fld Z h0 a0 "java/util/ImmutableCollections$ListItr" "size" "I" (.int (1 : Int32))) (F2 : Fld Z h0 a0 "java/util/ImmutableCollections$ListItr" "cursor" "I" (.int (1 : Int32))) :
    MetFree l (⟨"java/util/ImmutableCollections$ListItr", "hasNext", "()Z"⟩ : MethodName) (head1 (Jvm.Cond.code (⟨"java/util/ImmutableCollections$ListItr", "hasNext", "()Z"⟩ : MethodName) jdk_53_method_3_code 1 (some .boolean) :: ws) ({ frames := 0, cells := 0, slots := 0, locals := 0 } : Room)) (fun a U => a = #[(.ref a0)] ∧ Z.Warmed39 U.vm ∧ U.heap = h0) (fun _ _ _ _ _ => True) (fun _ U o U' => ∃ v L, o = .returned v ∧ Q_rm_hn1_1 Z a0 h0 n0 v U'.heap L ∧ FrameEnd U o U' L ({ frames := 0, cells := 0, slots := 0, locals := 0 } : Room).cells ({ frames := 0, cells := 0, slots := 0, locals := 0 } : Room).slots) := by
  refine MetFree.of_bodySF (plainFor_of_name own_pn15) hisR ?_
  intro p e s m args below meth c s₁ Bd hml0 hP hK
  obtain ⟨rfl, hZ, hh⟩ := hP
  have hx := Bd.exec
  have hby := Bd.bytes
  have hml : c.maxLocals = 1 := hml0
  have hown : s.vm.findClass "java/util/ImmutableCollections$ListItr" = some m.cls := findClass_of_methodNamed Bd.named
  have hnm := (name_of_methodNamed Bd.named Bd.method).1
  have X0 : Stand p l e ({ frames := 0, cells := 0, slots := 0, locals := 0 } : Room) s m #[(.ref a0)] below meth c s₁ [] 0 0 := Stand.of_body Bd
  have e0 : s₁.heap = h0 := by rw [← hh, Bd.state]; rfl
  have N0 := Fr.nil n0
  refine OGo.by (P := fun U' o => ∃ v L, o = .returned v ∧ Q_rm_hn1_1 Z a0 h0 n0 v U'.heap L ∧ FrameEnd s o U' L ({ frames := 0, cells := 0, slots := 0, locals := 0 } : Room).cells ({ frames := 0, cells := 0, slots := 0, locals := 0 } : Room).slots) (fun T_ k_ => castTop (ef_rm_hn1_1 m a0) k_) ?_
  show OGo p e below _ (s₁.setTop (mkF m 0 #[.val (.ref a0)] []))
  refine OGo.by (fun _ k => XS.aloadN X0.here hx rfl (hb hby d15_0) rfl rfl k) ?_
  show OGo p e below _ (s₁.setTop (mkF m 1 #[.val (.ref a0)] [(.ref a0)]))
  obtain ⟨T1, X1, e1, st1⟩ := getF X0 hx hZ hown (host := "") (Or.inl (hw _ (List.mem_of_getElem? (i := 105) rfl))) Via.refl e0 F2 (g := (mkF m 1 #[.val (.ref a0)] [(.ref a0)])) rfl rfl (hb hby d15_1)
  refine OGo.by st1 ?_
  show OGo p e below _ (T1.setTop (mkF m 4 #[.val (.ref a0)] [(.int (1 : Int32))]))
  refine OGo.by (fun _ k => XS.aloadN X1.here hx rfl (hb hby d15_4) rfl rfl k) ?_
  show OGo p e below _ (T1.setTop (mkF m 5 #[.val (.ref a0)] [(.ref a0), (.int (1 : Int32))]))
  obtain ⟨T2, X2, e2, st2⟩ := getF X1 hx hZ hown (host := "") (Or.inl (hw _ (List.mem_of_getElem? (i := 103) rfl))) Via.refl e1 F1 (g := (mkF m 5 #[.val (.ref a0)] [(.ref a0), (.int (1 : Int32))])) rfl rfl (hb hby d15_5)
  refine OGo.by st2 ?_
  show OGo p e below _ (T2.setTop (mkF m 8 #[.val (.ref a0)] [(.int (1 : Int32)), (.int (1 : Int32))]))
  refine OGo.by (fun _ k => XS.icmpYes X2.here hx rfl (pc0 := 8) (pc' := 15) rfl (hb hby d15_8) rfl (teq (by decide : (1 : Int32) = (1 : Int32))).1 (by decide) (by decide) k) ?_
  show OGo p e below _ (T2.setTop (mkF m 15 #[.val (.ref a0)] []))
  refine OGo.by (fun _ k => XS.iconst X2.here hx rfl (hb hby d15_15) k) ?_
  show OGo p e below _ (T2.setTop (mkF m 16 #[.val (.ref a0)] [(.int (0 : Int32))]))
  obtain ⟨fs, hr, hrun, hended, hW, hsame⟩ := X2.leave (v := some (.int (0 : Int32))) (fun h => by rw [Bd.returns] at h; cases h)
  refine OGo.ret (retN X2 hx (t := .boolean) Bd.returns (by simp) (hb hby d15_16) hr) hrun hended ⟨_, _, rfl, ?_, ⟨_, rfl⟩, hW, hsame.mono (by decide) (by decide)⟩
  show Q_rm_hn1_1 Z a0 h0 n0 _ T2.heap _
  rw [e2]
  exact ⟨rfl, N0, rfl⟩
theorem d11_21 : decode prog_7_method_2_code 21 = .ok (.aload_n 3, 1) := by decide +kernel
theorem d11_22 : decode prog_7_method_2_code 22 = .ok (.invokeinterface 29 1, 5) := by decide +kernel
theorem own_pd19 : parseMethodDescriptor "()Ljava/lang/Object;" = some ⟨[], some (.object "java/lang/Object")⟩ := by decide +kernel
theorem d11_27 : decode prog_7_method_2_code 27 = .ok (.checkcast 33, 3) := by decide +kernel
theorem d11_30 : decode prog_7_method_2_code 30 = .ok (.astore 4, 2) := by decide +kernel
theorem d11_32 : decode prog_7_method_2_code 32 = .ok (.lload_n 1, 1) := by decide +kernel
theorem d11_33 : decode prog_7_method_2_code 33 = .ok (.aload 4, 2) := by decide +kernel
theorem d11_35 : decode prog_7_method_2_code 35 = .ok (.invokevirtual 35, 3) := by decide +kernel
theorem own_pd20 : parseMethodDescriptor "()J" = some ⟨[], some .long⟩ := by decide +kernel
theorem d11_38 : decode prog_7_method_2_code 38 = .ok (.ladd, 1) := by decide +kernel
theorem d11_39 : decode prog_7_method_2_code 39 = .ok (.lstore_n 1, 1) := by decide +kernel
theorem d11_40 : decode prog_7_method_2_code 40 = .ok (.goto (-28), 3) := by decide +kernel
theorem ef_rm_tot1 (m : MethodId) (a0 : Addr) : entryFrame m #[(.ref a0)] 5 = mkF m 0 #[.val (.ref a0), .unset, .unset, .unset, .unset] [] := by first | (simp [entryFrame, mkF, argsToLocals, Value.category]; done) | rfl
def Q_rm_tot1 (Z : State) (a0 : Addr) (li : Addr) (we : Addr) (c0 : Addr) (q0 : Int64) (h0 : Heap) (n0 : Nat) (v : Option Value) (h : Heap) (L : List Loc) : Prop := v = some (.long ((0 : Int64) + q0)) ∧ Fr n0 L ∧ Keep h0 h []
set_option maxRecDepth 65536 in
set_option maxHeartbeats 40000000 in
theorem rm_tot1 (l : Launch) (Z : State) (av0 : Array Value) (hw : ∀ d ∈ tables_1, d.before av0 Z = true) (ws : List Jvm.Cond) (a0 : Addr) (li : Addr) (we : Addr) (c0 : Addr) (q0 : Int64) (h0 : Heap) (n0 : Nat) (Z0 : n0 ≤ h0.size) (F0 : Fld Z h0 a0 "com/example/kept_inbox/keptinbox/Unread" "conversations" "Ljava/util/List;" (.ref li)) (l_0 : Exa Z h0 li "java/util/ImmutableCollections$List12") (l_1 : Fld Z h0 li "java/util/ImmutableCollections$List12" "e0" "Ljava/lang/Object;" (.ref c0)) (l_2 : Fld Z h0 li "java/util/ImmutableCollections$List12" "e1" "Ljava/lang/Object;" (.ref we)) (O_0 : Old Z n0 h0) (S_e : Sta Z Z.heap "java/util/ImmutableCollections" "EMPTY" "Ljava/lang/Object;" (.ref we)) (Ec0 : Exa Z h0 c0 "com/example/kept_inbox/keptinbox/UnreadConversation") (Fc0 : Fld Z h0 c0 "com/example/kept_inbox/keptinbox/UnreadConversation" "waiting" "J" (.long q0)) :
    MetFree l (⟨"com/example/kept_inbox/keptinbox/Unread", "total", "()J"⟩ : MethodName) (head1 (Jvm.Cond.code (⟨"com/example/kept_inbox/keptinbox/Unread", "total", "()J"⟩ : MethodName) prog_7_method_2_code 5 (some .long) :: ws) ({ frames := 3, cells := 1, slots := 4, locals := 39 } : Room)) (fun a U => a = #[(.ref a0)] ∧ Z.Warmed39 U.vm ∧ U.heap = h0) (fun _ _ _ _ _ => True) (fun _ U o U' => ∃ v L, o = .returned v ∧ Q_rm_tot1 Z a0 li we c0 q0 h0 n0 v U'.heap L ∧ FrameEnd U o U' L ({ frames := 3, cells := 1, slots := 4, locals := 39 } : Room).cells ({ frames := 3, cells := 1, slots := 4, locals := 39 } : Room).slots) := by
  refine MetFree.of_bodySF (plainFor_of_name own_pn11) hisR ?_
  intro p e s m args below meth c s₁ Bd hml0 hP hK
  obtain ⟨rfl, hZ, hh⟩ := hP
  have hx := Bd.exec
  have hby := Bd.bytes
  have hml : c.maxLocals = 5 := hml0
  have hown : s.vm.findClass "com/example/kept_inbox/keptinbox/Unread" = some m.cls := findClass_of_methodNamed Bd.named
  have hnm := (name_of_methodNamed Bd.named Bd.method).1
  have X0 : Stand p l e ({ frames := 3, cells := 1, slots := 4, locals := 39 } : Room) s m #[(.ref a0)] below meth c s₁ [] 0 0 := Stand.of_body Bd
  have e0 : s₁.heap = h0 := by rw [← hh, Bd.state]; rfl
  have N0 := Fr.nil n0
  refine OGo.by (P := fun U' o => ∃ v L, o = .returned v ∧ Q_rm_tot1 Z a0 li we c0 q0 h0 n0 v U'.heap L ∧ FrameEnd s o U' L ({ frames := 3, cells := 1, slots := 4, locals := 39 } : Room).cells ({ frames := 3, cells := 1, slots := 4, locals := 39 } : Room).slots) (fun T_ k_ => castTop (ef_rm_tot1 m a0) k_) ?_
  show OGo p e below _ (s₁.setTop (mkF m 0 #[.val (.ref a0), .unset, .unset, .unset, .unset] []))
  refine OGo.by (fun _ k => XS.lconst X0.here hx rfl (hb hby d11_0) k) ?_
  show OGo p e below _ (s₁.setTop (mkF m 1 #[.val (.ref a0), .unset, .unset, .unset, .unset] [(.long (0 : Int64))]))
  refine OGo.by (fun _ k => XS.lstoreN X0.here hx rfl (hb hby d11_1) rfl (l' := #[.val (.ref a0), .val (.long (0 : Int64)), .second, .unset, .unset]) rfl k) ?_
  show OGo p e below _ (s₁.setTop (mkF m 2 #[.val (.ref a0), .val (.long (0 : Int64)), .second, .unset, .unset] []))
  refine OGo.by (fun _ k => XS.aloadN X0.here hx rfl (hb hby d11_2) rfl rfl k) ?_
  show OGo p e below _ (s₁.setTop (mkF m 3 #[.val (.ref a0), .val (.long (0 : Int64)), .second, .unset, .unset] [(.ref a0)]))
  obtain ⟨T1, X1, e1, st1⟩ := getF X0 hx hZ hown (host := "") (Or.inl (hw _ (List.mem_of_getElem? (i := 67) rfl))) Via.refl e0 F0 (g := (mkF m 3 #[.val (.ref a0), .val (.long (0 : Int64)), .second, .unset, .unset] [(.ref a0)])) rfl rfl (hb hby d11_3)
  refine OGo.by st1 ?_
  show OGo p e below _ (T1.setTop (mkF m 6 #[.val (.ref a0), .val (.long (0 : Int64)), .second, .unset, .unset] [(.ref li)]))
  obtain ⟨cq2, kq2, q2a, q2b, q2c⟩ := isOf hZ e1 l_0
  obtain ⟨_, _, ⟨T2, L2, k2, n2⟩, -, X2, ⟨Lc2, hQ2, l2, y2, z2⟩, st2⟩ := X1.interfaceBack hx (xi := (⟨"java/util/List", "iterator", "()Ljava/util/Iterator;"⟩ : MethodName)) (y := (⟨"java/util/ImmutableCollections$AbstractImmutableList", "iterator", "()Ljava/util/Iterator;"⟩ : MethodName)) hown (mvT hZ (hw _ (List.mem_of_getElem? (i := 74) rfl))) (mvT hZ (hw _ (List.mem_of_getElem? (i := 75) rfl))) (mvT hZ (hw _ (List.mem_of_getElem? (i := 76) rfl))) (mvT hZ (hw _ (List.mem_of_getElem? (i := 274) rfl))) (mvT hZ (hw _ (List.mem_of_getElem? (i := 78) rfl))) (mvT hZ (hw _ (List.mem_of_getElem? (i := 79) rfl))) (mvT hZ (hw _ (List.mem_of_getElem? (i := 275) rfl))) (mvT hZ (hw _ (List.mem_of_getElem? (i := 276) rfl))) (by decide) (backOf (W := 0) (rm_itr1 l Z av0 hw [] li we c0 h0 n0 Z0 l_0 l_1 l_2 O_0 S_e) hZ (hw _ (List.mem_of_getElem? (i := 83) rfl)) (hw _ (List.mem_of_getElem? (i := 82) rfl)) (by decide) (by decide)) q2a q2b q2c (g := (mkF m 6 #[.val (.ref a0), .val (.long (0 : Int64)), .second, .unset, .unset] [(.ref li)])) rfl (by rw [hml]; rfl) (Steps.refl _) (argsL := []) (rest := []) (lenOf own_pd17 rfl) rfl (by show 2 * 0 + _ ≤ _; exact Nat.le_of_eq rfl) (hb hby d11_6) (fun _ _ => ⟨rfl, e1, (by decide : 0 + 1 ≤ _), (by decide : 0 + 4 ≤ _)⟩)
  dsimp only [Pt.U, Pt.locs, Pt.cells, Pt.slots] at X2 l2 y2 z2 st2 hQ2
  subst l2 y2 z2
  obtain ⟨b_2, rfl, N2q, Kc2, G2_0, G2_1, G2_2, G2_3, G2_4, G2_5⟩ := hQ2
  have N2 := Fr.app N0 N2q
  have ne_a0_b_2 : a0 ≠ b_2 := Nat.ne_of_lt (Nat.lt_of_lt_of_le F0.lt G2_0)
  have ne_li_b_2 : li ≠ b_2 := Nat.ne_of_lt (Nat.lt_of_lt_of_le l_0.lt G2_0)
  have ne_c0_b_2 : c0 ≠ b_2 := Nat.ne_of_lt (Nat.lt_of_lt_of_le Ec0.lt G2_0)
  have g_b_2 : n0 ≤ b_2 := Nat.le_trans Z0 G2_0
  have sz_b_2 : h0.size ≤ b_2 := Nat.le_trans (Nat.le_refl _) G2_0
  have K2 : Keep h0 T2.heap [] := ((Keep.refl h0 [])).trans Kc2 (all0 (P := fun x => x ∈ ([] : List Addr) ∨ h0.size ≤ x))
  refine OGo.of st2 ?_
  show OGo p e below _ (T2.setTop (mkF m 11 #[.val (.ref a0), .val (.long (0 : Int64)), .second, .unset, .unset] [(.ref b_2)]))
  refine OGo.by (fun _ k => XS.astoreN X2.here hx rfl (hb hby d11_11) rfl rfl (l' := #[.val (.ref a0), .val (.long (0 : Int64)), .second, .val (.ref b_2), .unset]) rfl k) ?_
  show OGo p e below _ (T2.setTop (mkF m 12 #[.val (.ref a0), .val (.long (0 : Int64)), .second, .val (.ref b_2), .unset] []))
  refine OGo.by (fun _ k => XS.aloadN X2.here hx rfl (hb hby d11_12) rfl rfl k) ?_
  show OGo p e below _ (T2.setTop (mkF m 13 #[.val (.ref a0), .val (.long (0 : Int64)), .second, .val (.ref b_2), .unset] [(.ref b_2)]))
  obtain ⟨cq3, kq3, q3a, q3b, q3c⟩ := isOf hZ rfl G2_2
  obtain ⟨_, _, ⟨T3, L3, k3, n3⟩, -, X3, ⟨Lc3, hQ3, l3, y3, z3⟩, st3⟩ := X2.interfaceBack hx (xi := (⟨"java/util/Iterator", "hasNext", "()Z"⟩ : MethodName)) (y := (⟨"java/util/ImmutableCollections$ListItr", "hasNext", "()Z"⟩ : MethodName)) hown (mvT hZ (hw _ (List.mem_of_getElem? (i := 109) rfl))) (mvT hZ (hw _ (List.mem_of_getElem? (i := 110) rfl))) (mvT hZ (hw _ (List.mem_of_getElem? (i := 111) rfl))) (mvT hZ (hw _ (List.mem_of_getElem? (i := 112) rfl))) (mvT hZ (hw _ (List.mem_of_getElem? (i := 113) rfl))) (mvT hZ (hw _ (List.mem_of_getElem? (i := 114) rfl))) (mvT hZ (hw _ (List.mem_of_getElem? (i := 115) rfl))) (mvT hZ (hw _ (List.mem_of_getElem? (i := 116) rfl))) (by decide) (backOf (W := 0) (rm_hn1_0 l Z av0 hw [] b_2 T2.heap n0 (Nat.le_trans Z0 K2.1) G2_4 G2_5) hZ (hw _ (List.mem_of_getElem? (i := 117) rfl)) (hw _ (List.mem_of_getElem? (i := 86) rfl)) (by decide) (by decide)) q3a q3b q3c (g := (mkF m 13 #[.val (.ref a0), .val (.long (0 : Int64)), .second, .val (.ref b_2), .unset] [(.ref b_2)])) rfl (by rw [hml]; rfl) (Steps.refl _) (argsL := []) (rest := []) (lenOf own_pd6 rfl) rfl (by show 2 * 0 + _ ≤ _; exact Nat.le_of_eq rfl) (hb hby d11_13) (fun _ _ => ⟨rfl, rfl, (by decide : 1 + 0 ≤ _), (by decide : 4 + 0 ≤ _)⟩)
  dsimp only [Pt.U, Pt.locs, Pt.cells, Pt.slots] at X3 l3 y3 z3 st3 hQ3
  subst l3 y3 z3
  obtain ⟨rfl, N3q, e3⟩ := hQ3
  have N3 := Fr.app N2 N3q
  refine OGo.of st3 ?_
  show OGo p e below _ (T3.setTop (mkF m 18 #[.val (.ref a0), .val (.long (0 : Int64)), .second, .val (.ref b_2), .unset] [(.int (1 : Int32))]))
  refine OGo.by (fun _ k => XS.ifNo X3.here hx rfl (hb hby d11_18) rfl ((if0 _ _).trans (feq (by decide : ¬ ((1 : Int32) = (0 : Int32)))).1) k) ?_
  show OGo p e below _ (T3.setTop (mkF m 21 #[.val (.ref a0), .val (.long (0 : Int64)), .second, .val (.ref b_2), .unset] []))
  refine OGo.by (fun _ k => XS.aloadN X3.here hx rfl (hb hby d11_21) rfl rfl k) ?_
  show OGo p e below _ (T3.setTop (mkF m 22 #[.val (.ref a0), .val (.long (0 : Int64)), .second, .val (.ref b_2), .unset] [(.ref b_2)]))
  have f5 : Exa Z T2.heap li "java/util/ImmutableCollections$List12" := (l_0.keep Kc2)
  have f6 : Fld Z T2.heap li "java/util/ImmutableCollections$List12" "e0" "Ljava/lang/Object;" (.ref c0) := (l_1.keep Kc2 nin0)
  have f7 : Fld Z T2.heap li "java/util/ImmutableCollections$List12" "e1" "Ljava/lang/Object;" (.ref we) := (l_2.keep Kc2 nin0)
  have f8 : Old Z n0 T2.heap := (O_0.keep Kc2 all0)
  obtain ⟨cq4, kq4, q4a, q4b, q4c⟩ := isOf hZ e3 G2_2
  obtain ⟨_, _, ⟨T4, L4, k4, n4⟩, -, X4, ⟨Lc4, hQ4, l4, y4, z4⟩, st4⟩ := X3.interfaceBack hx (xi := (⟨"java/util/Iterator", "next", "()Ljava/lang/Object;"⟩ : MethodName)) (y := (⟨"java/util/ImmutableCollections$ListItr", "next", "()Ljava/lang/Object;"⟩ : MethodName)) hown (mvT hZ (hw _ (List.mem_of_getElem? (i := 234) rfl))) (mvT hZ (hw _ (List.mem_of_getElem? (i := 235) rfl))) (mvT hZ (hw _ (List.mem_of_getElem? (i := 236) rfl))) (mvT hZ (hw _ (List.mem_of_getElem? (i := 237) rfl))) (mvT hZ (hw _ (List.mem_of_getElem? (i := 238) rfl))) (mvT hZ (hw _ (List.mem_of_getElem? (i := 239) rfl))) (mvT hZ (hw _ (List.mem_of_getElem? (i := 240) rfl))) (mvT hZ (hw _ (List.mem_of_getElem? (i := 116) rfl))) (by decide) (backOfWith (W := 0) (rm_nx1_0 l Z av0 hw [] b_2 li we c0 T2.heap n0 (Nat.le_trans Z0 K2.1) G2_2 G2_3 G2_4 G2_5 g_b_2 f5 f6 f7 f8 S_e) hZ (hw _ (List.mem_of_getElem? (i := 241) rfl)) (hw _ (List.mem_of_getElem? (i := 86) rfl)) (by decide) (by decide)) q4a q4b q4c (g := (mkF m 22 #[.val (.ref a0), .val (.long (0 : Int64)), .second, .val (.ref b_2), .unset] [(.ref b_2)])) rfl (by rw [hml]; rfl) (Steps.refl _) (argsL := []) (rest := []) (lenOf own_pd19 rfl) rfl (by show 2 * 0 + _ ≤ _; exact Nat.le_of_eq rfl) (hb hby d11_22) (fun _ _ => ⟨rfl, e3, (by decide : 1 + 0 ≤ _), (by decide : 4 + 0 ≤ _)⟩)
  dsimp only [Pt.U, Pt.locs, Pt.cells, Pt.slots] at X4 l4 y4 z4 st4 hQ4
  subst l4 y4 z4
  obtain ⟨rfl, N4q, Kc4, G4_0, G4_1, G4_2, G4_3⟩ := hQ4
  have N4 := Fr.app N3 N4q
  have K4 : Keep h0 T4.heap [] := (K2).trans Kc4 (allS (P := fun x => x ∈ ([] : List Addr) ∨ h0.size ≤ x) (Or.inr sz_b_2) (all0 (P := fun x => x ∈ ([] : List Addr) ∨ h0.size ≤ x)))
  refine OGo.of st4 ?_
  show OGo p e below _ (T4.setTop (mkF m 27 #[.val (.ref a0), .val (.long (0 : Int64)), .second, .val (.ref b_2), .unset] [(.ref c0)]))
  have f9 : Exa Z T4.heap c0 "com/example/kept_inbox/keptinbox/UnreadConversation" := ((Ec0.keep Kc2).keep Kc4)
  obtain ⟨T10, X10, e10, st10⟩ := castY X4 hx hZ hown (hw _ (List.mem_of_getElem? (i := 250) rfl)) rfl (Ins.self f9) (g := (mkF m 27 #[.val (.ref a0), .val (.long (0 : Int64)), .second, .val (.ref b_2), .unset] [(.ref c0)])) rfl rfl (hb hby d11_27)
  refine OGo.by st10 ?_
  show OGo p e below _ (T10.setTop (mkF m 30 #[.val (.ref a0), .val (.long (0 : Int64)), .second, .val (.ref b_2), .unset] [(.ref c0)]))
  refine OGo.by (fun _ k => XS.astore X10.here hx rfl (hb hby d11_30) rfl rfl (l' := #[.val (.ref a0), .val (.long (0 : Int64)), .second, .val (.ref b_2), .val (.ref c0)]) rfl k) ?_
  show OGo p e below _ (T10.setTop (mkF m 32 #[.val (.ref a0), .val (.long (0 : Int64)), .second, .val (.ref b_2), .val (.ref c0)] []))
  refine OGo.by (fun _ k => XS.lloadN X10.here hx rfl (hb hby d11_32) rfl k) ?_
  show OGo p e below _ (T10.setTop (mkF m 33 #[.val (.ref a0), .val (.long (0 : Int64)), .second, .val (.ref b_2), .val (.ref c0)] [(.long (0 : Int64))]))
  refine OGo.by (fun _ k => XS.aload X10.here hx rfl (hb hby d11_33) rfl rfl k) ?_
  show OGo p e below _ (T10.setTop (mkF m 35 #[.val (.ref a0), .val (.long (0 : Int64)), .second, .val (.ref b_2), .val (.ref c0)] [(.ref c0), (.long (0 : Int64))]))
  have f12 : Fld Z T4.heap c0 "com/example/kept_inbox/keptinbox/UnreadConversation" "waiting" "J" (.long q0) := ((Fc0.keep Kc2 nin0).keep Kc4 (ninS ne_c0_b_2 nin0))
  obtain ⟨cq11, kq11, q11a, q11b, q11c⟩ := isOf hZ e10 f9
  obtain ⟨_, _, ⟨T11, L11, k11, n11⟩, -, X11, ⟨Lc11, hQ11, l11, y11, z11⟩, st11⟩ := X10.virtualBack hx (y := (⟨"com/example/kept_inbox/keptinbox/UnreadConversation", "waiting", "()J"⟩ : MethodName)) (z := (⟨"com/example/kept_inbox/keptinbox/UnreadConversation", "waiting", "()J"⟩ : MethodName)) hown (mvT hZ (hw _ (List.mem_of_getElem? (i := 252) rfl))) (mvT hZ (hw _ (List.mem_of_getElem? (i := 253) rfl))) (notFace_of_selects (args := #[]) (mvT hZ (hw _ (List.mem_of_getElem? (i := 255) rfl)))) (mvT hZ (hw _ (List.mem_of_getElem? (i := 255) rfl))) (mvT hZ (hw _ (List.mem_of_getElem? (i := 254) rfl))) (by decide) (backOf (W := 2) (rm34 l Z av0 hw [] c0 q0 T4.heap n0 (Nat.le_trans Z0 K4.1) f12) hZ (hw _ (List.mem_of_getElem? (i := 256) rfl)) (hw _ (List.mem_of_getElem? (i := 120) rfl)) (by decide) (by decide)) q11a q11c (g := (mkF m 35 #[.val (.ref a0), .val (.long (0 : Int64)), .second, .val (.ref b_2), .val (.ref c0)] [(.ref c0), (.long (0 : Int64))])) rfl (by rw [hml]; rfl) (Steps.refl _) (argsL := []) (rest := [(.long (0 : Int64))]) (lenOf own_pd20 rfl) rfl (by show 2 * 0 + _ ≤ _; exact Nat.le_of_eq rfl) (hb hby d11_35) (fun _ _ => ⟨rfl, e10, (by decide : 1 + 0 ≤ _), (by decide : 4 + 0 ≤ _)⟩)
  dsimp only [Pt.U, Pt.locs, Pt.cells, Pt.slots] at X11 l11 y11 z11 st11 hQ11
  subst l11 y11 z11
  obtain ⟨rfl, N11q, e11⟩ := hQ11
  have N11 := Fr.app N4 N11q
  refine OGo.of st11 ?_
  show OGo p e below _ (T11.setTop (mkF m 38 #[.val (.ref a0), .val (.long (0 : Int64)), .second, .val (.ref b_2), .val (.ref c0)] [(.long q0), (.long (0 : Int64))]))
  refine OGo.by (fun _ k => XS.ladd X11.here hx rfl (hb hby d11_38) rfl k) ?_
  show OGo p e below _ (T11.setTop (mkF m 39 #[.val (.ref a0), .val (.long (0 : Int64)), .second, .val (.ref b_2), .val (.ref c0)] [(.long ((0 : Int64) + q0))]))
  refine OGo.by (fun _ k => XS.lstoreN X11.here hx rfl (hb hby d11_39) rfl (l' := #[.val (.ref a0), .val (.long ((0 : Int64) + q0)), .second, .val (.ref b_2), .val (.ref c0)]) rfl k) ?_
  show OGo p e below _ (T11.setTop (mkF m 40 #[.val (.ref a0), .val (.long ((0 : Int64) + q0)), .second, .val (.ref b_2), .val (.ref c0)] []))
  refine OGo.by (fun _ k => XS.goto X11.here hx rfl (pc0 := 40) (pc' := 12) rfl (hb hby d11_40) (by decide) (by decide) k) ?_
  show OGo p e below _ (T11.setTop (mkF m 12 #[.val (.ref a0), .val (.long ((0 : Int64) + q0)), .second, .val (.ref b_2), .val (.ref c0)] []))
  refine OGo.by (fun _ k => XS.aloadN X11.here hx rfl (hb hby d11_12) rfl rfl k) ?_
  show OGo p e below _ (T11.setTop (mkF m 13 #[.val (.ref a0), .val (.long ((0 : Int64) + q0)), .second, .val (.ref b_2), .val (.ref c0)] [(.ref b_2)]))
  obtain ⟨cq13, kq13, q13a, q13b, q13c⟩ := isOf hZ e11 G4_0
  obtain ⟨_, _, ⟨T13, L13, k13, n13⟩, -, X13, ⟨Lc13, hQ13, l13, y13, z13⟩, st13⟩ := X11.interfaceBack hx (xi := (⟨"java/util/Iterator", "hasNext", "()Z"⟩ : MethodName)) (y := (⟨"java/util/ImmutableCollections$ListItr", "hasNext", "()Z"⟩ : MethodName)) hown (mvT hZ (hw _ (List.mem_of_getElem? (i := 109) rfl))) (mvT hZ (hw _ (List.mem_of_getElem? (i := 110) rfl))) (mvT hZ (hw _ (List.mem_of_getElem? (i := 111) rfl))) (mvT hZ (hw _ (List.mem_of_getElem? (i := 112) rfl))) (mvT hZ (hw _ (List.mem_of_getElem? (i := 113) rfl))) (mvT hZ (hw _ (List.mem_of_getElem? (i := 114) rfl))) (mvT hZ (hw _ (List.mem_of_getElem? (i := 115) rfl))) (mvT hZ (hw _ (List.mem_of_getElem? (i := 116) rfl))) (by decide) (backOf (W := 0) (rm_hn1_1 l Z av0 hw [] b_2 T4.heap n0 (Nat.le_trans Z0 K4.1) G4_2 G4_3) hZ (hw _ (List.mem_of_getElem? (i := 117) rfl)) (hw _ (List.mem_of_getElem? (i := 86) rfl)) (by decide) (by decide)) q13a q13b q13c (g := (mkF m 13 #[.val (.ref a0), .val (.long ((0 : Int64) + q0)), .second, .val (.ref b_2), .val (.ref c0)] [(.ref b_2)])) rfl (by rw [hml]; rfl) (Steps.refl _) (argsL := []) (rest := []) (lenOf own_pd6 rfl) rfl (by show 2 * 0 + _ ≤ _; exact Nat.le_of_eq rfl) (hb hby d11_13) (fun _ _ => ⟨rfl, e11, (by decide : 1 + 0 ≤ _), (by decide : 4 + 0 ≤ _)⟩)
  dsimp only [Pt.U, Pt.locs, Pt.cells, Pt.slots] at X13 l13 y13 z13 st13 hQ13
  subst l13 y13 z13
  obtain ⟨rfl, N13q, e13⟩ := hQ13
  have N13 := Fr.app N11 N13q
  refine OGo.of st13 ?_
  show OGo p e below _ (T13.setTop (mkF m 18 #[.val (.ref a0), .val (.long ((0 : Int64) + q0)), .second, .val (.ref b_2), .val (.ref c0)] [(.int (0 : Int32))]))
  refine OGo.by (fun _ k => XS.ifYes X13.here hx rfl (pc0 := 18) (pc' := 43) rfl (hb hby d11_18) rfl ((if0 _ _).trans (teq (by decide : (0 : Int32) = (0 : Int32))).1) (by decide) (by decide) k) ?_
  show OGo p e below _ (T13.setTop (mkF m 43 #[.val (.ref a0), .val (.long ((0 : Int64) + q0)), .second, .val (.ref b_2), .val (.ref c0)] []))
  refine OGo.by (fun _ k => XS.lloadN X13.here hx rfl (hb hby d11_43) rfl k) ?_
  show OGo p e below _ (T13.setTop (mkF m 44 #[.val (.ref a0), .val (.long ((0 : Int64) + q0)), .second, .val (.ref b_2), .val (.ref c0)] [(.long ((0 : Int64) + q0))]))
  obtain ⟨fs, hr, hrun, hended, hW, hsame⟩ := X13.leave (v := some (.long ((0 : Int64) + q0))) (fun h => by rw [Bd.returns] at h; cases h)
  refine OGo.ret (retOut X13 hx Bd.returns rfl (Or.inr (Or.inl ⟨rfl, rfl, _, rfl⟩)) (hb hby d11_44) hr) hrun hended ⟨_, _, rfl, ?_, ⟨_, rfl⟩, hW, hsame.mono (by decide) (by decide)⟩
  show Q_rm_tot1 Z a0 li we c0 q0 h0 n0 _ T13.heap _
  rw [e13]
  exact ⟨rfl, N13, K4⟩
theorem d36_10 : decode jdk_44_method_3_code 10 = .ok (.iconst 2, 1) := by decide +kernel
theorem d36_11 : decode jdk_44_method_3_code 11 = .ok (.goto 4, 3) := by decide +kernel
theorem ef_rm_siz2 (m : MethodId) (a0 : Addr) : entryFrame m #[(.ref a0)] 1 = mkF m 0 #[.val (.ref a0)] [] := by first | (simp [entryFrame, mkF, argsToLocals, Value.category]; done) | rfl
def Q_rm_siz2 (Z : State) (a0 : Addr) (we : Addr) (c0 : Addr) (c1 : Addr) (h0 : Heap) (n0 : Nat) (v : Option Value) (h : Heap) (L : List Loc) : Prop := v = some (.int (2 : Int32)) ∧ Fr n0 L ∧ h = h0
set_option maxRecDepth 65536 in
set_option maxHeartbeats 40000000 in
theorem rm_siz2 (l : Launch) (Z : State) (av0 : Array Value) (hw : ∀ d ∈ tables_1, d.before av0 Z = true) (ws : List Jvm.Cond) (a0 : Addr) (we : Addr) (c0 : Addr) (c1 : Addr) (h0 : Heap) (n0 : Nat) (Z0 : n0 ≤ h0.size) (l_0 : Exa Z h0 a0 "java/util/ImmutableCollections$List12") (l_1 : Fld Z h0 a0 "java/util/ImmutableCollections$List12" "e0" "Ljava/lang/Object;" (.ref c0)) (l_2 : Fld Z h0 a0 "java/util/ImmutableCollections$List12" "e1" "Ljava/lang/Object;" (.ref c1)) (O_0 : Old Z n0 h0) (S_e : Sta Z Z.heap "java/util/ImmutableCollections" "EMPTY" "Ljava/lang/Object;" (.ref we)) (ne_e : c1 ≠ we) :
    MetFree l (⟨"java/util/ImmutableCollections$List12", "size", "()I"⟩ : MethodName) (head1 (Jvm.Cond.code (⟨"java/util/ImmutableCollections$List12", "size", "()I"⟩ : MethodName) jdk_44_method_3_code 1 (some .int) :: ws) ({ frames := 0, cells := 0, slots := 0, locals := 0 } : Room)) (fun a U => a = #[(.ref a0)] ∧ Z.Warmed39 U.vm ∧ U.heap = h0) (fun _ _ _ _ _ => True) (fun _ U o U' => ∃ v L, o = .returned v ∧ Q_rm_siz2 Z a0 we c0 c1 h0 n0 v U'.heap L ∧ FrameEnd U o U' L ({ frames := 0, cells := 0, slots := 0, locals := 0 } : Room).cells ({ frames := 0, cells := 0, slots := 0, locals := 0 } : Room).slots) := by
  refine MetFree.of_bodySF (plainFor_of_name own_pn36) hisR ?_
  intro p e s m args below meth c s₁ Bd hml0 hP hK
  obtain ⟨rfl, hZ, hh⟩ := hP
  have hx := Bd.exec
  have hby := Bd.bytes
  have hml : c.maxLocals = 1 := hml0
  have hown : s.vm.findClass "java/util/ImmutableCollections$List12" = some m.cls := findClass_of_methodNamed Bd.named
  have hnm := (name_of_methodNamed Bd.named Bd.method).1
  have X0 : Stand p l e ({ frames := 0, cells := 0, slots := 0, locals := 0 } : Room) s m #[(.ref a0)] below meth c s₁ [] 0 0 := Stand.of_body Bd
  have e0 : s₁.heap = h0 := by rw [← hh, Bd.state]; rfl
  have N0 := Fr.nil n0
  refine OGo.by (P := fun U' o => ∃ v L, o = .returned v ∧ Q_rm_siz2 Z a0 we c0 c1 h0 n0 v U'.heap L ∧ FrameEnd s o U' L ({ frames := 0, cells := 0, slots := 0, locals := 0 } : Room).cells ({ frames := 0, cells := 0, slots := 0, locals := 0 } : Room).slots) (fun T_ k_ => castTop (ef_rm_siz2 m a0) k_) ?_
  show OGo p e below _ (s₁.setTop (mkF m 0 #[.val (.ref a0)] []))
  refine OGo.by (fun _ k => XS.aloadN X0.here hx rfl (hb hby d36_0) rfl rfl k) ?_
  show OGo p e below _ (s₁.setTop (mkF m 1 #[.val (.ref a0)] [(.ref a0)]))
  obtain ⟨T1, X1, e1, st1⟩ := getF X0 hx hZ hown (host := "") (Or.inl (hw _ (List.mem_of_getElem? (i := 272) rfl))) Via.refl e0 l_2 (g := (mkF m 1 #[.val (.ref a0)] [(.ref a0)])) rfl rfl (hb hby d36_1)
  refine OGo.by st1 ?_
  show OGo p e below _ (T1.setTop (mkF m 4 #[.val (.ref a0)] [(.ref c1)]))
  obtain ⟨T2, X2, e2, st2⟩ := getS2 X1 hx hZ hown (Or.inr (hw _ (List.mem_of_getElem? (i := 271) rfl))) Via.refl e1 (S_e.ext O_0.2) (g := (mkF m 4 #[.val (.ref a0)] [(.ref c1)])) rfl (hb hby d36_4)
  refine OGo.by st2 ?_
  show OGo p e below _ (T2.setTop (mkF m 7 #[.val (.ref a0)] [(.ref we), (.ref c1)]))
  refine OGo.by (fun _ k => Jvm.RoadKit.acmp (g := (mkF m 7 #[.val (.ref a0)] [(.ref we), (.ref c1)])) X2 hx rfl rfl rfl (pc0 := 7) (pc' := 10) (same := false) rfl (hb hby d36_7) rfl (decide_eq_false fun q => ne_e (Value.ref.inj q)) (by decide) (by decide) k) ?_
  show OGo p e below _ (T2.setTop (mkF m 10 #[.val (.ref a0)] []))
  refine OGo.by (fun _ k => XS.iconst X2.here hx rfl (hb hby d36_10) k) ?_
  show OGo p e below _ (T2.setTop (mkF m 11 #[.val (.ref a0)] [(.int (2 : Int32))]))
  refine OGo.by (fun _ k => XS.goto X2.here hx rfl (pc0 := 11) (pc' := 15) rfl (hb hby d36_11) (by decide) (by decide) k) ?_
  show OGo p e below _ (T2.setTop (mkF m 15 #[.val (.ref a0)] [(.int (2 : Int32))]))
  obtain ⟨fs, hr, hrun, hended, hW, hsame⟩ := X2.leave (v := some (.int (2 : Int32))) (fun h => by rw [Bd.returns] at h; cases h)
  refine OGo.ret (retI X2 hx Bd.returns (hb hby d36_15) hr) hrun hended ⟨_, _, rfl, ?_, ⟨_, rfl⟩, hW, hsame.mono (by decide) (by decide)⟩
  show Q_rm_siz2 Z a0 we c0 c1 h0 n0 _ T2.heap _
  rw [e2]
  exact ⟨rfl, N0, rfl⟩
theorem ef_rm_itr2 (m : MethodId) (a0 : Addr) : entryFrame m #[(.ref a0)] 1 = mkF m 0 #[.val (.ref a0)] [] := by first | (simp [entryFrame, mkF, argsToLocals, Value.category]; done) | rfl
def Q_rm_itr2 (Z : State) (a0 : Addr) (we : Addr) (c0 : Addr) (c1 : Addr) (h0 : Heap) (n0 : Nat) (v : Option Value) (h : Heap) (L : List Loc) : Prop := ∃ b : Addr, v = some (.ref b) ∧ Fr n0 L ∧ Keep h0 h [] ∧ (h0.size ≤ b) ∧ (n0 ≤ b) ∧ (Exa Z h b "java/util/ImmutableCollections$ListItr") ∧ (Fld Z h b "java/util/ImmutableCollections$ListItr" "list" "Ljava/util/List;" (.ref a0)) ∧ (Fld Z h b "java/util/ImmutableCollections$ListItr" "size" "I" (.int (2 : Int32))) ∧ (Fld Z h b "java/util/ImmutableCollections$ListItr" "cursor" "I" (.int (0 : Int32)))
set_option maxRecDepth 65536 in
set_option maxHeartbeats 40000000 in
theorem rm_itr2 (l : Launch) (Z : State) (av0 : Array Value) (hw : ∀ d ∈ tables_1, d.before av0 Z = true) (ws : List Jvm.Cond) (a0 : Addr) (we : Addr) (c0 : Addr) (c1 : Addr) (h0 : Heap) (n0 : Nat) (Z0 : n0 ≤ h0.size) (l_0 : Exa Z h0 a0 "java/util/ImmutableCollections$List12") (l_1 : Fld Z h0 a0 "java/util/ImmutableCollections$List12" "e0" "Ljava/lang/Object;" (.ref c0)) (l_2 : Fld Z h0 a0 "java/util/ImmutableCollections$List12" "e1" "Ljava/lang/Object;" (.ref c1)) (O_0 : Old Z n0 h0) (S_e : Sta Z Z.heap "java/util/ImmutableCollections" "EMPTY" "Ljava/lang/Object;" (.ref we)) (ne_e : c1 ≠ we) :
    MetFree l (⟨"java/util/ImmutableCollections$AbstractImmutableList", "iterator", "()Ljava/util/Iterator;"⟩ : MethodName) (head1 (Jvm.Cond.code (⟨"java/util/ImmutableCollections$AbstractImmutableList", "iterator", "()Ljava/util/Iterator;"⟩ : MethodName) jdk_46_method_10_code 1 (some (.object "java/util/Iterator")) :: ws) ({ frames := 2, cells := 1, slots := 4, locals := 27 } : Room)) (fun a U => a = #[(.ref a0)] ∧ Z.Warmed39 U.vm ∧ U.heap = h0) (fun _ _ _ _ _ => True) (fun _ U o U' => ∃ v L, o = .returned v ∧ Q_rm_itr2 Z a0 we c0 c1 h0 n0 v U'.heap L ∧ FrameEnd U o U' L ({ frames := 2, cells := 1, slots := 4, locals := 27 } : Room).cells ({ frames := 2, cells := 1, slots := 4, locals := 27 } : Room).slots) := by
  refine MetFree.of_bodySF (plainFor_of_name own_pn12) hisR ?_
  intro p e s m args below meth c s₁ Bd hml0 hP hK
  obtain ⟨rfl, hZ, hh⟩ := hP
  have hx := Bd.exec
  have hby := Bd.bytes
  have hml : c.maxLocals = 1 := hml0
  have hown : s.vm.findClass "java/util/ImmutableCollections$AbstractImmutableList" = some m.cls := findClass_of_methodNamed Bd.named
  have hnm := (name_of_methodNamed Bd.named Bd.method).1
  have X0 : Stand p l e ({ frames := 2, cells := 1, slots := 4, locals := 27 } : Room) s m #[(.ref a0)] below meth c s₁ [] 0 0 := Stand.of_body Bd
  have e0 : s₁.heap = h0 := by rw [← hh, Bd.state]; rfl
  have N0 := Fr.nil n0
  refine OGo.by (P := fun U' o => ∃ v L, o = .returned v ∧ Q_rm_itr2 Z a0 we c0 c1 h0 n0 v U'.heap L ∧ FrameEnd s o U' L ({ frames := 2, cells := 1, slots := 4, locals := 27 } : Room).cells ({ frames := 2, cells := 1, slots := 4, locals := 27 } : Room).slots) (fun T_ k_ => castTop (ef_rm_itr2 m a0) k_) ?_
  show OGo p e below _ (s₁.setTop (mkF m 0 #[.val (.ref a0)] []))
  obtain ⟨T1, h1, X1, e1, E1, A1, D1, U1, st1⟩ := newO X0 hx hZ hown (hw _ (List.mem_of_getElem? (i := 84) rfl)) (hw _ (List.mem_of_getElem? (i := 85) rfl)) (hw _ (List.mem_of_getElem? (i := 86) rfl)) e0 (g := (mkF m 0 #[.val (.ref a0)] [])) rfl (hb hby d12_0) (by decide) (by decide)
  obtain ⟨b1, g1⟩ : ∃ z, z = h0.size := ⟨_, rfl⟩
  rw [← g1] at A1 D1 U1 st1
  have ne_a0_b1 : a0 ≠ b1 := Nat.ne_of_lt (Nat.lt_of_lt_of_le l_0.lt (Nat.le_of_eq g1.symm))
  have g_b1 : n0 ≤ b1 := Nat.le_trans Z0 (Nat.le_of_eq g1.symm)
  have sz_b1 : h0.size ≤ b1 := Nat.le_trans (Nat.le_refl _) (Nat.le_of_eq g1.symm)
  refine OGo.by st1 ?_
  have K1 : Keep h0 h1 [] := ((Keep.refl h0 [])).ext E1
  have F1_list : Fld Z h1 b1 "java/util/ImmutableCollections$ListItr" "list" "Ljava/util/List;" .null := D1 (Or.inr (hw _ (List.mem_of_getElem? (i := 102) rfl))) (ty := (.object "java/util/List")) (by decide)
  have F1_size : Fld Z h1 b1 "java/util/ImmutableCollections$ListItr" "size" "I" (.int (0 : Int32)) := D1 (Or.inr (hw _ (List.mem_of_getElem? (i := 104) rfl))) (ty := .int) (by decide)
  have F1_cursor : Fld Z h1 b1 "java/util/ImmutableCollections$ListItr" "cursor" "I" (.int (0 : Int32)) := D1 (Or.inl (hw _ (List.mem_of_getElem? (i := 106) rfl))) (ty := .int) (by decide)
  have F1_isListIterator : Fld Z h1 b1 "java/util/ImmutableCollections$ListItr" "isListIterator" "Z" (.int (0 : Int32)) := D1 (Or.inr (hw _ (List.mem_of_getElem? (i := 108) rfl))) (ty := .boolean) (by decide)
  show OGo p e below _ (T1.setTop (mkF m 3 #[.val (.ref a0)] [(.ref b1)]))
  refine OGo.by (fun _ k => XS.dup X1.here hx rfl (hb hby d12_3) rfl rfl k) ?_
  show OGo p e below _ (T1.setTop (mkF m 4 #[.val (.ref a0)] [(.ref b1), (.ref b1)]))
  refine OGo.by (fun _ k => XS.aloadN X1.here hx rfl (hb hby d12_4) rfl rfl k) ?_
  show OGo p e below _ (T1.setTop (mkF m 5 #[.val (.ref a0)] [(.ref a0), (.ref b1), (.ref b1)]))
  refine OGo.by (fun _ k => XS.aloadN X1.here hx rfl (hb hby d12_5) rfl rfl k) ?_
  show OGo p e below _ (T1.setTop (mkF m 6 #[.val (.ref a0)] [(.ref a0), (.ref a0), (.ref b1), (.ref b1)]))
  have f3 : Exa Z h1 a0 "java/util/ImmutableCollections$List12" := (l_0.ext E1)
  have f4 : Fld Z h1 a0 "java/util/ImmutableCollections$List12" "e0" "Ljava/lang/Object;" (.ref c0) := (l_1.ext E1)
  have f5 : Fld Z h1 a0 "java/util/ImmutableCollections$List12" "e1" "Ljava/lang/Object;" (.ref c1) := (l_2.ext E1)
  have f6 : Old Z n0 h1 := (O_0.ext E1)
  obtain ⟨cq2, kq2, q2a, q2b, q2c⟩ := isOf hZ e1 f3
  obtain ⟨_, _, ⟨T2, L2, k2, n2⟩, -, X2, ⟨Lc2, hQ2, l2, y2, z2⟩, st2⟩ := X1.virtualBackUp hx (owner := "java/util/AbstractCollection") (x := (⟨"java/util/ImmutableCollections$AbstractImmutableList", "size", "()I"⟩ : MethodName)) (y := (⟨"java/util/ImmutableCollections$List12", "size", "()I"⟩ : MethodName)) hown (mvT hZ (hw _ (List.mem_of_getElem? (i := 87) rfl))) (mvT hZ (hw _ (List.mem_of_getElem? (i := 88) rfl))) (mvT hZ (hw _ (List.mem_of_getElem? (i := 89) rfl))) (by decide) (mvT hZ (hw _ (List.mem_of_getElem? (i := 277) rfl))) (mvT hZ (hw _ (List.mem_of_getElem? (i := 278) rfl))) (backOf (W := 3) (rm_siz2 l Z av0 hw [] a0 we c0 c1 h1 n0 (Nat.le_trans Z0 K1.1) f3 f4 f5 f6 S_e ne_e) hZ (hw _ (List.mem_of_getElem? (i := 279) rfl)) (hw _ (List.mem_of_getElem? (i := 259) rfl)) (by decide) (by decide)) q2a q2c (g := (mkF m 6 #[.val (.ref a0)] [(.ref a0), (.ref a0), (.ref b1), (.ref b1)])) rfl (by rw [hml]; rfl) (Steps.refl _) (argsL := []) (rest := [(.ref a0), (.ref b1), (.ref b1)]) (lenOf own_pd15 rfl) rfl (by show 2 * 0 + _ ≤ _; exact Nat.le_of_eq rfl) (hb hby d12_6) (fun _ _ => ⟨rfl, e1, (by decide : 1 + 0 ≤ _), (by decide : 4 + 0 ≤ _)⟩)
  dsimp only [Pt.U, Pt.locs, Pt.cells, Pt.slots] at X2 l2 y2 z2 st2 hQ2
  subst l2 y2 z2
  obtain ⟨rfl, N2q, e2⟩ := hQ2
  have N2 := Fr.app N0 N2q
  refine OGo.of st2 ?_
  show OGo p e below _ (T2.setTop (mkF m 9 #[.val (.ref a0)] [(.int (2 : Int32)), (.ref a0), (.ref b1), (.ref b1)]))
  obtain ⟨_, _, ⟨T7, L7, k7, n7⟩, -, X7, ⟨Lc7, hQ7, l7, y7, z7⟩, st7⟩ := X2.specialBack hx (y := (⟨"java/util/ImmutableCollections$ListItr", "<init>", "(Ljava/util/List;I)V"⟩ : MethodName)) rfl hown (mvT hZ (hw _ (List.mem_of_getElem? (i := 96) rfl))) (mvT hZ (hw _ (List.mem_of_getElem? (i := 97) rfl))) (mvT hZ (hw _ (List.mem_of_getElem? (i := 99) rfl))) (by decide) (backOf (W := 1) (rm14 l Z av0 hw [] b1 a0 (2 : Int32) h1 n0 (Nat.le_trans Z0 K1.1) A1 F1_list F1_size F1_cursor F1_isListIterator g_b1) hZ (hw _ (List.mem_of_getElem? (i := 99) rfl)) (hw _ (List.mem_of_getElem? (i := 86) rfl)) (by decide) (by decide)) (g := (mkF m 9 #[.val (.ref a0)] [(.int (2 : Int32)), (.ref a0), (.ref b1), (.ref b1)])) rfl (by rw [hml]; rfl) (Steps.refl _) (a := b1) (argsL := [(.ref a0), (.int (2 : Int32))]) (rest := [(.ref b1)]) (lenOf own_pd16 rfl) rfl (by show 2 * 0 + _ ≤ _; exact Nat.le_of_eq rfl) (hb hby d12_9) (fun _ _ => ⟨rfl, e2, (by decide : 1 + 0 ≤ _), (by decide : 4 + 0 ≤ _)⟩)
  dsimp only [Pt.U, Pt.locs, Pt.cells, Pt.slots] at X7 l7 y7 z7 st7 hQ7
  subst l7 y7 z7
  obtain ⟨rfl, N7q, Kc7, G7_0, G7_1, G7_2, G7_3⟩ := hQ7
  have N7 := Fr.app N2 N7q
  have K7 : Keep h0 T7.heap [] := (K1).trans Kc7 (allS (P := fun x => x ∈ ([] : List Addr) ∨ h0.size ≤ x) (Or.inr sz_b1) (all0 (P := fun x => x ∈ ([] : List Addr) ∨ h0.size ≤ x)))
  refine OGo.of st7 ?_
  show OGo p e below _ (T7.setTop (mkF m 12 #[.val (.ref a0)] [(.ref b1)]))
  obtain ⟨fs, hr, hrun, hended, hW, hsame⟩ := X7.leave (v := some (.ref b1)) (fun h => by rw [Bd.returns] at h; cases h)
  refine OGo.ret (retOut X7 hx Bd.returns rfl (Or.inr (Or.inr (Or.inr (Or.inr ⟨rfl, rfl, rfl⟩)))) (hb hby d12_12) hr) hrun hended ⟨_, _, rfl, ?_, ⟨_, rfl⟩, hW, hsame.mono (by decide) (by decide)⟩
  show Q_rm_itr2 Z a0 we c0 c1 h0 n0 _ T7.heap _
  exact ⟨b1, rfl, N7, K7, sz_b1, g_b1, G7_0, G7_1, G7_2, G7_3⟩
theorem ef_rm_hn2_0 (m : MethodId) (a0 : Addr) : entryFrame m #[(.ref a0)] 1 = mkF m 0 #[.val (.ref a0)] [] := by first | (simp [entryFrame, mkF, argsToLocals, Value.category]; done) | rfl
def Q_rm_hn2_0 (Z : State) (a0 : Addr) (h0 : Heap) (n0 : Nat) (v : Option Value) (h : Heap) (L : List Loc) : Prop := v = some (.int (1 : Int32)) ∧ Fr n0 L ∧ h = h0
set_option maxRecDepth 65536 in
set_option maxHeartbeats 40000000 in
theorem rm_hn2_0 (l : Launch) (Z : State) (av0 : Array Value) (hw : ∀ d ∈ tables_1, d.before av0 Z = true) (ws : List Jvm.Cond) (a0 : Addr) (h0 : Heap) (n0 : Nat) (Z0 : n0 ≤ h0.size) (F1 : Fld Z h0 a0 "java/util/ImmutableCollections$ListItr" "size" "I" (.int (2 : Int32))) (F2 : Fld Z h0 a0 "java/util/ImmutableCollections$ListItr" "cursor" "I" (.int (0 : Int32))) :
    MetFree l (⟨"java/util/ImmutableCollections$ListItr", "hasNext", "()Z"⟩ : MethodName) (head1 (Jvm.Cond.code (⟨"java/util/ImmutableCollections$ListItr", "hasNext", "()Z"⟩ : MethodName) jdk_53_method_3_code 1 (some .boolean) :: ws) ({ frames := 0, cells := 0, slots := 0, locals := 0 } : Room)) (fun a U => a = #[(.ref a0)] ∧ Z.Warmed39 U.vm ∧ U.heap = h0) (fun _ _ _ _ _ => True) (fun _ U o U' => ∃ v L, o = .returned v ∧ Q_rm_hn2_0 Z a0 h0 n0 v U'.heap L ∧ FrameEnd U o U' L ({ frames := 0, cells := 0, slots := 0, locals := 0 } : Room).cells ({ frames := 0, cells := 0, slots := 0, locals := 0 } : Room).slots) := by
  refine MetFree.of_bodySF (plainFor_of_name own_pn15) hisR ?_
  intro p e s m args below meth c s₁ Bd hml0 hP hK
  obtain ⟨rfl, hZ, hh⟩ := hP
  have hx := Bd.exec
  have hby := Bd.bytes
  have hml : c.maxLocals = 1 := hml0
  have hown : s.vm.findClass "java/util/ImmutableCollections$ListItr" = some m.cls := findClass_of_methodNamed Bd.named
  have hnm := (name_of_methodNamed Bd.named Bd.method).1
  have X0 : Stand p l e ({ frames := 0, cells := 0, slots := 0, locals := 0 } : Room) s m #[(.ref a0)] below meth c s₁ [] 0 0 := Stand.of_body Bd
  have e0 : s₁.heap = h0 := by rw [← hh, Bd.state]; rfl
  have N0 := Fr.nil n0
  refine OGo.by (P := fun U' o => ∃ v L, o = .returned v ∧ Q_rm_hn2_0 Z a0 h0 n0 v U'.heap L ∧ FrameEnd s o U' L ({ frames := 0, cells := 0, slots := 0, locals := 0 } : Room).cells ({ frames := 0, cells := 0, slots := 0, locals := 0 } : Room).slots) (fun T_ k_ => castTop (ef_rm_hn2_0 m a0) k_) ?_
  show OGo p e below _ (s₁.setTop (mkF m 0 #[.val (.ref a0)] []))
  refine OGo.by (fun _ k => XS.aloadN X0.here hx rfl (hb hby d15_0) rfl rfl k) ?_
  show OGo p e below _ (s₁.setTop (mkF m 1 #[.val (.ref a0)] [(.ref a0)]))
  obtain ⟨T1, X1, e1, st1⟩ := getF X0 hx hZ hown (host := "") (Or.inl (hw _ (List.mem_of_getElem? (i := 105) rfl))) Via.refl e0 F2 (g := (mkF m 1 #[.val (.ref a0)] [(.ref a0)])) rfl rfl (hb hby d15_1)
  refine OGo.by st1 ?_
  show OGo p e below _ (T1.setTop (mkF m 4 #[.val (.ref a0)] [(.int (0 : Int32))]))
  refine OGo.by (fun _ k => XS.aloadN X1.here hx rfl (hb hby d15_4) rfl rfl k) ?_
  show OGo p e below _ (T1.setTop (mkF m 5 #[.val (.ref a0)] [(.ref a0), (.int (0 : Int32))]))
  obtain ⟨T2, X2, e2, st2⟩ := getF X1 hx hZ hown (host := "") (Or.inl (hw _ (List.mem_of_getElem? (i := 103) rfl))) Via.refl e1 F1 (g := (mkF m 5 #[.val (.ref a0)] [(.ref a0), (.int (0 : Int32))])) rfl rfl (hb hby d15_5)
  refine OGo.by st2 ?_
  show OGo p e below _ (T2.setTop (mkF m 8 #[.val (.ref a0)] [(.int (2 : Int32)), (.int (0 : Int32))]))
  refine OGo.by (fun _ k => XS.icmpNo X2.here hx rfl (hb hby d15_8) rfl (feq (by decide : ¬ ((0 : Int32) = (2 : Int32)))).1 k) ?_
  show OGo p e below _ (T2.setTop (mkF m 11 #[.val (.ref a0)] []))
  refine OGo.by (fun _ k => XS.iconst X2.here hx rfl (hb hby d15_11) k) ?_
  show OGo p e below _ (T2.setTop (mkF m 12 #[.val (.ref a0)] [(.int (1 : Int32))]))
  refine OGo.by (fun _ k => XS.goto X2.here hx rfl (pc0 := 12) (pc' := 16) rfl (hb hby d15_12) (by decide) (by decide) k) ?_
  show OGo p e below _ (T2.setTop (mkF m 16 #[.val (.ref a0)] [(.int (1 : Int32))]))
  obtain ⟨fs, hr, hrun, hended, hW, hsame⟩ := X2.leave (v := some (.int (1 : Int32))) (fun h => by rw [Bd.returns] at h; cases h)
  refine OGo.ret (retN X2 hx (t := .boolean) Bd.returns (by simp) (hb hby d15_16) hr) hrun hended ⟨_, _, rfl, ?_, ⟨_, rfl⟩, hW, hsame.mono (by decide) (by decide)⟩
  show Q_rm_hn2_0 Z a0 h0 n0 _ T2.heap _
  rw [e2]
  exact ⟨rfl, N0, rfl⟩
theorem ef_rm_get2_0 (m : MethodId) (a0 : Addr) (we : Addr) (c0 : Addr) (c1 : Addr) : entryFrame m #[(.ref a0), (.int (0 : Int32))] 2 = mkF m 0 #[.val (.ref a0), .val (.int (0 : Int32))] [] := by first | (simp [entryFrame, mkF, argsToLocals, Value.category]; done) | rfl
def Q_rm_get2_0 (Z : State) (a0 : Addr) (we : Addr) (c0 : Addr) (c1 : Addr) (h0 : Heap) (n0 : Nat) (v : Option Value) (h : Heap) (L : List Loc) : Prop := v = some (.ref c0) ∧ Fr n0 L ∧ h = h0
set_option maxRecDepth 65536 in
set_option maxHeartbeats 40000000 in
theorem rm_get2_0 (l : Launch) (Z : State) (av0 : Array Value) (hw : ∀ d ∈ tables_1, d.before av0 Z = true) (ws : List Jvm.Cond) (a0 : Addr) (we : Addr) (c0 : Addr) (c1 : Addr) (h0 : Heap) (n0 : Nat) (Z0 : n0 ≤ h0.size) (l_0 : Exa Z h0 a0 "java/util/ImmutableCollections$List12") (l_1 : Fld Z h0 a0 "java/util/ImmutableCollections$List12" "e0" "Ljava/lang/Object;" (.ref c0)) (l_2 : Fld Z h0 a0 "java/util/ImmutableCollections$List12" "e1" "Ljava/lang/Object;" (.ref c1)) (O_0 : Old Z n0 h0) (S_e : Sta Z Z.heap "java/util/ImmutableCollections" "EMPTY" "Ljava/lang/Object;" (.ref we)) (ne_e : c1 ≠ we) :
    MetFree l (⟨"java/util/ImmutableCollections$List12", "get", "(I)Ljava/lang/Object;"⟩ : MethodName) (head1 (Jvm.Cond.code (⟨"java/util/ImmutableCollections$List12", "get", "(I)Ljava/lang/Object;"⟩ : MethodName) jdk_44_method_5_code 2 (some (.object "java/lang/Object")) :: ws) ({ frames := 0, cells := 0, slots := 0, locals := 0 } : Room)) (fun a U => a = #[(.ref a0), (.int (0 : Int32))] ∧ Z.Warmed39 U.vm ∧ U.heap = h0) (fun _ _ _ _ _ => True) (fun _ U o U' => ∃ v L, o = .returned v ∧ Q_rm_get2_0 Z a0 we c0 c1 h0 n0 v U'.heap L ∧ FrameEnd U o U' L ({ frames := 0, cells := 0, slots := 0, locals := 0 } : Room).cells ({ frames := 0, cells := 0, slots := 0, locals := 0 } : Room).slots) := by
  refine MetFree.of_bodySF (plainFor_of_name own_pn37) hisR ?_
  intro p e s m args below meth c s₁ Bd hml0 hP hK
  obtain ⟨rfl, hZ, hh⟩ := hP
  have hx := Bd.exec
  have hby := Bd.bytes
  have hml : c.maxLocals = 2 := hml0
  have hown : s.vm.findClass "java/util/ImmutableCollections$List12" = some m.cls := findClass_of_methodNamed Bd.named
  have hnm := (name_of_methodNamed Bd.named Bd.method).1
  have X0 : Stand p l e ({ frames := 0, cells := 0, slots := 0, locals := 0 } : Room) s m #[(.ref a0), (.int (0 : Int32))] below meth c s₁ [] 0 0 := Stand.of_body Bd
  have e0 : s₁.heap = h0 := by rw [← hh, Bd.state]; rfl
  have N0 := Fr.nil n0
  refine OGo.by (P := fun U' o => ∃ v L, o = .returned v ∧ Q_rm_get2_0 Z a0 we c0 c1 h0 n0 v U'.heap L ∧ FrameEnd s o U' L ({ frames := 0, cells := 0, slots := 0, locals := 0 } : Room).cells ({ frames := 0, cells := 0, slots := 0, locals := 0 } : Room).slots) (fun T_ k_ => castTop (ef_rm_get2_0 m a0 we c0 c1) k_) ?_
  show OGo p e below _ (s₁.setTop (mkF m 0 #[.val (.ref a0), .val (.int (0 : Int32))] []))
  refine OGo.by (fun _ k => XS.iloadN X0.here hx rfl (hb hby d37_0) rfl k) ?_
  show OGo p e below _ (s₁.setTop (mkF m 1 #[.val (.ref a0), .val (.int (0 : Int32))] [(.int (0 : Int32))]))
  refine OGo.by (fun _ k => XS.ifNo X0.here hx rfl (hb hby d37_1) rfl ((if0 _ _).trans (teq (by decide : (0 : Int32) = (0 : Int32))).2) k) ?_
  show OGo p e below _ (s₁.setTop (mkF m 4 #[.val (.ref a0), .val (.int (0 : Int32))] []))
  refine OGo.by (fun _ k => XS.aloadN X0.here hx rfl (hb hby d37_4) rfl rfl k) ?_
  show OGo p e below _ (s₁.setTop (mkF m 5 #[.val (.ref a0), .val (.int (0 : Int32))] [(.ref a0)]))
  obtain ⟨T1, X1, e1, st1⟩ := getF X0 hx hZ hown (host := "") (Or.inl (hw _ (List.mem_of_getElem? (i := 269) rfl))) Via.refl e0 l_1 (g := (mkF m 5 #[.val (.ref a0), .val (.int (0 : Int32))] [(.ref a0)])) rfl rfl (hb hby d37_5)
  refine OGo.by st1 ?_
  show OGo p e below _ (T1.setTop (mkF m 8 #[.val (.ref a0), .val (.int (0 : Int32))] [(.ref c0)]))
  obtain ⟨fs, hr, hrun, hended, hW, hsame⟩ := X1.leave (v := some (.ref c0)) (fun h => by rw [Bd.returns] at h; cases h)
  refine OGo.ret (retOut X1 hx Bd.returns rfl (Or.inr (Or.inr (Or.inr (Or.inr ⟨rfl, rfl, rfl⟩)))) (hb hby d37_8) hr) hrun hended ⟨_, _, rfl, ?_, ⟨_, rfl⟩, hW, hsame.mono (by decide) (by decide)⟩
  show Q_rm_get2_0 Z a0 we c0 c1 h0 n0 _ T1.heap _
  rw [e1]
  exact ⟨rfl, N0, rfl⟩
theorem ef_rm_nx2_0 (m : MethodId) (a0 : Addr) : entryFrame m #[(.ref a0)] 3 = mkF m 0 #[.val (.ref a0), .unset, .unset] [] := by first | (simp [entryFrame, mkF, argsToLocals, Value.category]; done) | rfl
def Q_rm_nx2_0 (Z : State) (a0 : Addr) (li : Addr) (we : Addr) (c0 : Addr) (c1 : Addr) (h0 : Heap) (n0 : Nat) (v : Option Value) (h : Heap) (L : List Loc) : Prop := v = some (.ref c0) ∧ Fr n0 L ∧ Keep h0 h [a0] ∧ (Exa Z h a0 "java/util/ImmutableCollections$ListItr") ∧ (Fld Z h a0 "java/util/ImmutableCollections$ListItr" "list" "Ljava/util/List;" (.ref li)) ∧ (Fld Z h a0 "java/util/ImmutableCollections$ListItr" "size" "I" (.int (2 : Int32))) ∧ (Fld Z h a0 "java/util/ImmutableCollections$ListItr" "cursor" "I" (.int (1 : Int32)))
set_option maxRecDepth 65536 in
set_option maxHeartbeats 40000000 in
theorem rm_nx2_0 (l : Launch) (Z : State) (av0 : Array Value) (hw : ∀ d ∈ tables_1, d.before av0 Z = true) (ws : List Jvm.Cond) (a0 : Addr) (li : Addr) (we : Addr) (c0 : Addr) (c1 : Addr) (h0 : Heap) (n0 : Nat) (Z0 : n0 ≤ h0.size) (E0 : Exa Z h0 a0 "java/util/ImmutableCollections$ListItr") (F0 : Fld Z h0 a0 "java/util/ImmutableCollections$ListItr" "list" "Ljava/util/List;" (.ref li)) (F1 : Fld Z h0 a0 "java/util/ImmutableCollections$ListItr" "size" "I" (.int (2 : Int32))) (F2 : Fld Z h0 a0 "java/util/ImmutableCollections$ListItr" "cursor" "I" (.int (0 : Int32))) (g_a0 : n0 ≤ a0) (l_0 : Exa Z h0 li "java/util/ImmutableCollections$List12") (l_1 : Fld Z h0 li "java/util/ImmutableCollections$List12" "e0" "Ljava/lang/Object;" (.ref c0)) (l_2 : Fld Z h0 li "java/util/ImmutableCollections$List12" "e1" "Ljava/lang/Object;" (.ref c1)) (O_0 : Old Z n0 h0) (S_e : Sta Z Z.heap "java/util/ImmutableCollections" "EMPTY" "Ljava/lang/Object;" (.ref we)) (ne_e : c1 ≠ we) :
    MetFree l (⟨"java/util/ImmutableCollections$ListItr", "next", "()Ljava/lang/Object;"⟩ : MethodName) (head1 (Jvm.Cond.codeWith (⟨"java/util/ImmutableCollections$ListItr", "next", "()Ljava/lang/Object;"⟩ : MethodName) jdk_53_method_4_code 3 (some (.object "java/lang/Object")) [(0, 24, 25, 30)] :: ws) ({ frames := 1, cells := 0, slots := 0, locals := 13 } : Room)) (fun a U => a = #[(.ref a0)] ∧ Z.Warmed39 U.vm ∧ U.heap = h0) (fun _ _ _ _ _ => True) (fun _ U o U' => ∃ v L, o = .returned v ∧ Q_rm_nx2_0 Z a0 li we c0 c1 h0 n0 v U'.heap L ∧ FrameEnd U o U' L ({ frames := 1, cells := 0, slots := 0, locals := 13 } : Room).cells ({ frames := 1, cells := 0, slots := 0, locals := 13 } : Room).slots) := by
  refine MetFree.of_bodySF (plainFor_of_name own_pn32) hisWith ?_
  intro p e s m args below meth c s₁ Bd hml0 hP hK
  obtain ⟨rfl, hZ, hh⟩ := hP
  have hx := Bd.exec
  have hby := Bd.bytes
  have hml : c.maxLocals = 3 := hml0
  have hown : s.vm.findClass "java/util/ImmutableCollections$ListItr" = some m.cls := findClass_of_methodNamed Bd.named
  have hnm := (name_of_methodNamed Bd.named Bd.method).1
  have X0 : Stand p l e ({ frames := 1, cells := 0, slots := 0, locals := 13 } : Room) s m #[(.ref a0)] below meth c s₁ [] 0 0 := Stand.of_body Bd
  have e0 : s₁.heap = h0 := by rw [← hh, Bd.state]; rfl
  have N0 := Fr.nil n0
  refine OGo.by (P := fun U' o => ∃ v L, o = .returned v ∧ Q_rm_nx2_0 Z a0 li we c0 c1 h0 n0 v U'.heap L ∧ FrameEnd s o U' L ({ frames := 1, cells := 0, slots := 0, locals := 13 } : Room).cells ({ frames := 1, cells := 0, slots := 0, locals := 13 } : Room).slots) (fun T_ k_ => castTop (ef_rm_nx2_0 m a0) k_) ?_
  show OGo p e below _ (s₁.setTop (mkF m 0 #[.val (.ref a0), .unset, .unset] []))
  refine OGo.by (fun _ k => XS.aloadN X0.here hx rfl (hb hby d32_0) rfl rfl k) ?_
  show OGo p e below _ (s₁.setTop (mkF m 1 #[.val (.ref a0), .unset, .unset] [(.ref a0)]))
  obtain ⟨T1, X1, e1, st1⟩ := getF X0 hx hZ hown (host := "") (Or.inl (hw _ (List.mem_of_getElem? (i := 105) rfl))) Via.refl e0 F2 (g := (mkF m 1 #[.val (.ref a0), .unset, .unset] [(.ref a0)])) rfl rfl (hb hby d32_1)
  refine OGo.by st1 ?_
  show OGo p e below _ (T1.setTop (mkF m 4 #[.val (.ref a0), .unset, .unset] [(.int (0 : Int32))]))
  refine OGo.by (fun _ k => XS.istoreN X1.here hx rfl (hb hby d32_4) rfl (l' := #[.val (.ref a0), .val (.int (0 : Int32)), .unset]) rfl k) ?_
  show OGo p e below _ (T1.setTop (mkF m 5 #[.val (.ref a0), .val (.int (0 : Int32)), .unset] []))
  refine OGo.by (fun _ k => XS.aloadN X1.here hx rfl (hb hby d32_5) rfl rfl k) ?_
  show OGo p e below _ (T1.setTop (mkF m 6 #[.val (.ref a0), .val (.int (0 : Int32)), .unset] [(.ref a0)]))
  obtain ⟨T2, X2, e2, st2⟩ := getF X1 hx hZ hown (host := "") (Or.inl (hw _ (List.mem_of_getElem? (i := 101) rfl))) Via.refl e1 F0 (g := (mkF m 6 #[.val (.ref a0), .val (.int (0 : Int32)), .unset] [(.ref a0)])) rfl rfl (hb hby d32_6)
  refine OGo.by st2 ?_
  show OGo p e below _ (T2.setTop (mkF m 9 #[.val (.ref a0), .val (.int (0 : Int32)), .unset] [(.ref li)]))
  refine OGo.by (fun _ k => XS.iloadN X2.here hx rfl (hb hby d32_9) rfl k) ?_
  show OGo p e below _ (T2.setTop (mkF m 10 #[.val (.ref a0), .val (.int (0 : Int32)), .unset] [(.int (0 : Int32)), (.ref li)]))
  obtain ⟨cq3, kq3, q3a, q3b, q3c⟩ := isOf hZ e2 l_0
  obtain ⟨_, _, ⟨T3, L3, k3, n3⟩, -, X3, ⟨Lc3, hQ3, l3, y3, z3⟩, st3⟩ := X2.interfaceBack hx (xi := (⟨"java/util/List", "get", "(I)Ljava/lang/Object;"⟩ : MethodName)) (y := (⟨"java/util/ImmutableCollections$List12", "get", "(I)Ljava/lang/Object;"⟩ : MethodName)) hown (mvT hZ (hw _ (List.mem_of_getElem? (i := 242) rfl))) (mvT hZ (hw _ (List.mem_of_getElem? (i := 243) rfl))) (mvT hZ (hw _ (List.mem_of_getElem? (i := 244) rfl))) (mvT hZ (hw _ (List.mem_of_getElem? (i := 280) rfl))) (mvT hZ (hw _ (List.mem_of_getElem? (i := 281) rfl))) (mvT hZ (hw _ (List.mem_of_getElem? (i := 282) rfl))) (mvT hZ (hw _ (List.mem_of_getElem? (i := 283) rfl))) (mvT hZ (hw _ (List.mem_of_getElem? (i := 276) rfl))) (by decide) (backOf (W := 0) (rm_get2_0 l Z av0 hw [] li we c0 c1 h0 n0 Z0 l_0 l_1 l_2 O_0 S_e ne_e) hZ (hw _ (List.mem_of_getElem? (i := 284) rfl)) (hw _ (List.mem_of_getElem? (i := 259) rfl)) (by decide) (by decide)) q3a q3b q3c (g := (mkF m 10 #[.val (.ref a0), .val (.int (0 : Int32)), .unset] [(.int (0 : Int32)), (.ref li)])) rfl (by rw [hml]; rfl) (Steps.refl _) (argsL := [(.int (0 : Int32))]) (rest := []) (lenOf own_pd18 rfl) rfl (by show 2 * 0 + _ ≤ _; exact Nat.le_of_eq rfl) (hb hby d32_10) (fun _ _ => ⟨rfl, e2, (by decide : 0 + 0 ≤ _), (by decide : 0 + 0 ≤ _)⟩)
  dsimp only [Pt.U, Pt.locs, Pt.cells, Pt.slots] at X3 l3 y3 z3 st3 hQ3
  subst l3 y3 z3
  obtain ⟨rfl, N3q, e3⟩ := hQ3
  have N3 := Fr.app N0 N3q
  refine OGo.of st3 ?_
  show OGo p e below _ (T3.setTop (mkF m 15 #[.val (.ref a0), .val (.int (0 : Int32)), .unset] [(.ref c0)]))
  refine OGo.by (fun _ k => XS.astoreN X3.here hx rfl (hb hby d32_15) rfl rfl (l' := #[.val (.ref a0), .val (.int (0 : Int32)), .val (.ref c0)]) rfl k) ?_
  show OGo p e below _ (T3.setTop (mkF m 16 #[.val (.ref a0), .val (.int (0 : Int32)), .val (.ref c0)] []))
  refine OGo.by (fun _ k => XS.aloadN X3.here hx rfl (hb hby d32_16) rfl rfl k) ?_
  show OGo p e below _ (T3.setTop (mkF m 17 #[.val (.ref a0), .val (.int (0 : Int32)), .val (.ref c0)] [(.ref a0)]))
  refine OGo.by (fun _ k => XS.iloadN X3.here hx rfl (hb hby d32_17) rfl k) ?_
  show OGo p e below _ (T3.setTop (mkF m 18 #[.val (.ref a0), .val (.int (0 : Int32)), .val (.ref c0)] [(.int (0 : Int32)), (.ref a0)]))
  refine OGo.by (fun _ k => XS.iconst X3.here hx rfl (hb hby d32_18) k) ?_
  show OGo p e below _ (T3.setTop (mkF m 19 #[.val (.ref a0), .val (.int (0 : Int32)), .val (.ref c0)] [(.int (1 : Int32)), (.int (0 : Int32)), (.ref a0)]))
  refine OGo.by (fun _ k => XS.iadd X3.here hx rfl (hb hby d32_19) rfl k) ?_
  show OGo p e below _ (T3.setTop (mkF m 20 #[.val (.ref a0), .val (.int (0 : Int32)), .val (.ref c0)] [(.int (1 : Int32)), (.ref a0)]))
  obtain ⟨T4, h4, X4, e4, W4, st4⟩ := putF X3 hx hZ hown (host := "") (Or.inl (hw _ (List.mem_of_getElem? (i := 105) rfl))) Via.refl e3 F2 E0 (Or.inl (hw _ (List.mem_of_getElem? (i := 106) rfl))) (hw _ (List.mem_of_getElem? (i := 85) rfl)) (ty := .int) (by decide) rfl rfl (g := (mkF m 20 #[.val (.ref a0), .val (.int (0 : Int32)), .val (.ref c0)] [(.int (1 : Int32)), (.ref a0)])) rfl rfl (hb hby d32_20)
  refine OGo.by st4 ?_
  have Fw4 := F2.same W4
  have N4 := Fr.snoc X4 N3 g_a0
  have K4 : Keep h0 h4 [a0] := ((Keep.refl h0 [a0])).wr W4 (Or.inl (List.mem_of_getElem? (i := 0) rfl))
  show OGo p e below _ (T4.setTop (mkF m 23 #[.val (.ref a0), .val (.int (0 : Int32)), .val (.ref c0)] []))
  refine OGo.by (fun _ k => XS.aloadN X4.here hx rfl (hb hby d32_23) rfl rfl k) ?_
  show OGo p e below _ (T4.setTop (mkF m 24 #[.val (.ref a0), .val (.int (0 : Int32)), .val (.ref c0)] [(.ref c0)]))
  obtain ⟨fs, hr, hrun, hended, hW, hsame⟩ := X4.leave (v := some (.ref c0)) (fun h => by rw [Bd.returns] at h; cases h)
  refine OGo.ret (retOut X4 hx Bd.returns rfl (Or.inr (Or.inr (Or.inr (Or.inr ⟨rfl, rfl, rfl⟩)))) (hb hby d32_24) hr) hrun hended ⟨_, _, rfl, ?_, ⟨_, rfl⟩, hW, hsame.mono (by decide) (by decide)⟩
  show Q_rm_nx2_0 Z a0 li we c0 c1 h0 n0 _ T4.heap _
  rw [e4]
  have f5 : Exa Z h4 a0 "java/util/ImmutableCollections$ListItr" := (E0.wr W4)
  have f6 : Fld Z h4 a0 "java/util/ImmutableCollections$ListItr" "list" "Ljava/util/List;" (.ref li) := (F0.other W4 (Or.inr (slot_ne (Or.inr (hw _ (List.mem_of_getElem? (i := 102) rfl))) (Or.inl (hw _ (List.mem_of_getElem? (i := 106) rfl))) (by decide) (t := (.object "java/util/List")) (t' := .int) (by decide) (by decide))))
  have f7 : Fld Z h4 a0 "java/util/ImmutableCollections$ListItr" "size" "I" (.int (2 : Int32)) := (F1.other W4 (Or.inr (slot_ne (Or.inr (hw _ (List.mem_of_getElem? (i := 104) rfl))) (Or.inl (hw _ (List.mem_of_getElem? (i := 106) rfl))) (by decide) (t := .int) (t' := .int) (by decide) (by decide))))
  exact ⟨rfl, N4, K4, f5, f6, f7, Fw4⟩
theorem ef_rm_hn2_1 (m : MethodId) (a0 : Addr) : entryFrame m #[(.ref a0)] 1 = mkF m 0 #[.val (.ref a0)] [] := by first | (simp [entryFrame, mkF, argsToLocals, Value.category]; done) | rfl
def Q_rm_hn2_1 (Z : State) (a0 : Addr) (h0 : Heap) (n0 : Nat) (v : Option Value) (h : Heap) (L : List Loc) : Prop := v = some (.int (1 : Int32)) ∧ Fr n0 L ∧ h = h0
set_option maxRecDepth 65536 in
set_option maxHeartbeats 40000000 in
theorem rm_hn2_1 (l : Launch) (Z : State) (av0 : Array Value) (hw : ∀ d ∈ tables_1, d.before av0 Z = true) (ws : List Jvm.Cond) (a0 : Addr) (h0 : Heap) (n0 : Nat) (Z0 : n0 ≤ h0.size) (F1 : Fld Z h0 a0 "java/util/ImmutableCollections$ListItr" "size" "I" (.int (2 : Int32))) (F2 : Fld Z h0 a0 "java/util/ImmutableCollections$ListItr" "cursor" "I" (.int (1 : Int32))) :
    MetFree l (⟨"java/util/ImmutableCollections$ListItr", "hasNext", "()Z"⟩ : MethodName) (head1 (Jvm.Cond.code (⟨"java/util/ImmutableCollections$ListItr", "hasNext", "()Z"⟩ : MethodName) jdk_53_method_3_code 1 (some .boolean) :: ws) ({ frames := 0, cells := 0, slots := 0, locals := 0 } : Room)) (fun a U => a = #[(.ref a0)] ∧ Z.Warmed39 U.vm ∧ U.heap = h0) (fun _ _ _ _ _ => True) (fun _ U o U' => ∃ v L, o = .returned v ∧ Q_rm_hn2_1 Z a0 h0 n0 v U'.heap L ∧ FrameEnd U o U' L ({ frames := 0, cells := 0, slots := 0, locals := 0 } : Room).cells ({ frames := 0, cells := 0, slots := 0, locals := 0 } : Room).slots) := by
  refine MetFree.of_bodySF (plainFor_of_name own_pn15) hisR ?_
  intro p e s m args below meth c s₁ Bd hml0 hP hK
  obtain ⟨rfl, hZ, hh⟩ := hP
  have hx := Bd.exec
  have hby := Bd.bytes
  have hml : c.maxLocals = 1 := hml0
  have hown : s.vm.findClass "java/util/ImmutableCollections$ListItr" = some m.cls := findClass_of_methodNamed Bd.named
  have hnm := (name_of_methodNamed Bd.named Bd.method).1
  have X0 : Stand p l e ({ frames := 0, cells := 0, slots := 0, locals := 0 } : Room) s m #[(.ref a0)] below meth c s₁ [] 0 0 := Stand.of_body Bd
  have e0 : s₁.heap = h0 := by rw [← hh, Bd.state]; rfl
  have N0 := Fr.nil n0
  refine OGo.by (P := fun U' o => ∃ v L, o = .returned v ∧ Q_rm_hn2_1 Z a0 h0 n0 v U'.heap L ∧ FrameEnd s o U' L ({ frames := 0, cells := 0, slots := 0, locals := 0 } : Room).cells ({ frames := 0, cells := 0, slots := 0, locals := 0 } : Room).slots) (fun T_ k_ => castTop (ef_rm_hn2_1 m a0) k_) ?_
  show OGo p e below _ (s₁.setTop (mkF m 0 #[.val (.ref a0)] []))
  refine OGo.by (fun _ k => XS.aloadN X0.here hx rfl (hb hby d15_0) rfl rfl k) ?_
  show OGo p e below _ (s₁.setTop (mkF m 1 #[.val (.ref a0)] [(.ref a0)]))
  obtain ⟨T1, X1, e1, st1⟩ := getF X0 hx hZ hown (host := "") (Or.inl (hw _ (List.mem_of_getElem? (i := 105) rfl))) Via.refl e0 F2 (g := (mkF m 1 #[.val (.ref a0)] [(.ref a0)])) rfl rfl (hb hby d15_1)
  refine OGo.by st1 ?_
  show OGo p e below _ (T1.setTop (mkF m 4 #[.val (.ref a0)] [(.int (1 : Int32))]))
  refine OGo.by (fun _ k => XS.aloadN X1.here hx rfl (hb hby d15_4) rfl rfl k) ?_
  show OGo p e below _ (T1.setTop (mkF m 5 #[.val (.ref a0)] [(.ref a0), (.int (1 : Int32))]))
  obtain ⟨T2, X2, e2, st2⟩ := getF X1 hx hZ hown (host := "") (Or.inl (hw _ (List.mem_of_getElem? (i := 103) rfl))) Via.refl e1 F1 (g := (mkF m 5 #[.val (.ref a0)] [(.ref a0), (.int (1 : Int32))])) rfl rfl (hb hby d15_5)
  refine OGo.by st2 ?_
  show OGo p e below _ (T2.setTop (mkF m 8 #[.val (.ref a0)] [(.int (2 : Int32)), (.int (1 : Int32))]))
  refine OGo.by (fun _ k => XS.icmpNo X2.here hx rfl (hb hby d15_8) rfl (feq (by decide : ¬ ((1 : Int32) = (2 : Int32)))).1 k) ?_
  show OGo p e below _ (T2.setTop (mkF m 11 #[.val (.ref a0)] []))
  refine OGo.by (fun _ k => XS.iconst X2.here hx rfl (hb hby d15_11) k) ?_
  show OGo p e below _ (T2.setTop (mkF m 12 #[.val (.ref a0)] [(.int (1 : Int32))]))
  refine OGo.by (fun _ k => XS.goto X2.here hx rfl (pc0 := 12) (pc' := 16) rfl (hb hby d15_12) (by decide) (by decide) k) ?_
  show OGo p e below _ (T2.setTop (mkF m 16 #[.val (.ref a0)] [(.int (1 : Int32))]))
  obtain ⟨fs, hr, hrun, hended, hW, hsame⟩ := X2.leave (v := some (.int (1 : Int32))) (fun h => by rw [Bd.returns] at h; cases h)
  refine OGo.ret (retN X2 hx (t := .boolean) Bd.returns (by simp) (hb hby d15_16) hr) hrun hended ⟨_, _, rfl, ?_, ⟨_, rfl⟩, hW, hsame.mono (by decide) (by decide)⟩
  show Q_rm_hn2_1 Z a0 h0 n0 _ T2.heap _
  rw [e2]
  exact ⟨rfl, N0, rfl⟩
theorem d37_9 : decode jdk_44_method_5_code 9 = .ok (.iload_n 1, 1) := by decide +kernel
theorem d37_10 : decode jdk_44_method_5_code 10 = .ok (.iconst 1, 1) := by decide +kernel
theorem d37_11 : decode jdk_44_method_5_code 11 = .ok (.if_icmp .ne 18, 3) := by decide +kernel
theorem d37_14 : decode jdk_44_method_5_code 14 = .ok (.aload_n 0, 1) := by decide +kernel
theorem d37_15 : decode jdk_44_method_5_code 15 = .ok (.getfield 24, 3) := by decide +kernel
theorem d37_18 : decode jdk_44_method_5_code 18 = .ok (.getstatic 19, 3) := by decide +kernel
theorem d37_21 : decode jdk_44_method_5_code 21 = .ok (.if_acmp .eq 8, 3) := by decide +kernel
theorem d37_24 : decode jdk_44_method_5_code 24 = .ok (.aload_n 0, 1) := by decide +kernel
theorem d37_25 : decode jdk_44_method_5_code 25 = .ok (.getfield 24, 3) := by decide +kernel
theorem d37_28 : decode jdk_44_method_5_code 28 = .ok (.areturn, 1) := by decide +kernel
theorem ef_rm_get2_1 (m : MethodId) (a0 : Addr) (we : Addr) (c0 : Addr) (c1 : Addr) : entryFrame m #[(.ref a0), (.int (1 : Int32))] 2 = mkF m 0 #[.val (.ref a0), .val (.int (1 : Int32))] [] := by first | (simp [entryFrame, mkF, argsToLocals, Value.category]; done) | rfl
def Q_rm_get2_1 (Z : State) (a0 : Addr) (we : Addr) (c0 : Addr) (c1 : Addr) (h0 : Heap) (n0 : Nat) (v : Option Value) (h : Heap) (L : List Loc) : Prop := v = some (.ref c1) ∧ Fr n0 L ∧ h = h0
set_option maxRecDepth 65536 in
set_option maxHeartbeats 40000000 in
theorem rm_get2_1 (l : Launch) (Z : State) (av0 : Array Value) (hw : ∀ d ∈ tables_1, d.before av0 Z = true) (ws : List Jvm.Cond) (a0 : Addr) (we : Addr) (c0 : Addr) (c1 : Addr) (h0 : Heap) (n0 : Nat) (Z0 : n0 ≤ h0.size) (l_0 : Exa Z h0 a0 "java/util/ImmutableCollections$List12") (l_1 : Fld Z h0 a0 "java/util/ImmutableCollections$List12" "e0" "Ljava/lang/Object;" (.ref c0)) (l_2 : Fld Z h0 a0 "java/util/ImmutableCollections$List12" "e1" "Ljava/lang/Object;" (.ref c1)) (O_0 : Old Z n0 h0) (S_e : Sta Z Z.heap "java/util/ImmutableCollections" "EMPTY" "Ljava/lang/Object;" (.ref we)) (ne_e : c1 ≠ we) :
    MetFree l (⟨"java/util/ImmutableCollections$List12", "get", "(I)Ljava/lang/Object;"⟩ : MethodName) (head1 (Jvm.Cond.code (⟨"java/util/ImmutableCollections$List12", "get", "(I)Ljava/lang/Object;"⟩ : MethodName) jdk_44_method_5_code 2 (some (.object "java/lang/Object")) :: ws) ({ frames := 0, cells := 0, slots := 0, locals := 0 } : Room)) (fun a U => a = #[(.ref a0), (.int (1 : Int32))] ∧ Z.Warmed39 U.vm ∧ U.heap = h0) (fun _ _ _ _ _ => True) (fun _ U o U' => ∃ v L, o = .returned v ∧ Q_rm_get2_1 Z a0 we c0 c1 h0 n0 v U'.heap L ∧ FrameEnd U o U' L ({ frames := 0, cells := 0, slots := 0, locals := 0 } : Room).cells ({ frames := 0, cells := 0, slots := 0, locals := 0 } : Room).slots) := by
  refine MetFree.of_bodySF (plainFor_of_name own_pn37) hisR ?_
  intro p e s m args below meth c s₁ Bd hml0 hP hK
  obtain ⟨rfl, hZ, hh⟩ := hP
  have hx := Bd.exec
  have hby := Bd.bytes
  have hml : c.maxLocals = 2 := hml0
  have hown : s.vm.findClass "java/util/ImmutableCollections$List12" = some m.cls := findClass_of_methodNamed Bd.named
  have hnm := (name_of_methodNamed Bd.named Bd.method).1
  have X0 : Stand p l e ({ frames := 0, cells := 0, slots := 0, locals := 0 } : Room) s m #[(.ref a0), (.int (1 : Int32))] below meth c s₁ [] 0 0 := Stand.of_body Bd
  have e0 : s₁.heap = h0 := by rw [← hh, Bd.state]; rfl
  have N0 := Fr.nil n0
  refine OGo.by (P := fun U' o => ∃ v L, o = .returned v ∧ Q_rm_get2_1 Z a0 we c0 c1 h0 n0 v U'.heap L ∧ FrameEnd s o U' L ({ frames := 0, cells := 0, slots := 0, locals := 0 } : Room).cells ({ frames := 0, cells := 0, slots := 0, locals := 0 } : Room).slots) (fun T_ k_ => castTop (ef_rm_get2_1 m a0 we c0 c1) k_) ?_
  show OGo p e below _ (s₁.setTop (mkF m 0 #[.val (.ref a0), .val (.int (1 : Int32))] []))
  refine OGo.by (fun _ k => XS.iloadN X0.here hx rfl (hb hby d37_0) rfl k) ?_
  show OGo p e below _ (s₁.setTop (mkF m 1 #[.val (.ref a0), .val (.int (1 : Int32))] [(.int (1 : Int32))]))
  refine OGo.by (fun _ k => XS.ifYes X0.here hx rfl (pc0 := 1) (pc' := 9) rfl (hb hby d37_1) rfl ((if0 _ _).trans (feq (by decide : ¬ ((1 : Int32) = (0 : Int32)))).2) (by decide) (by decide) k) ?_
  show OGo p e below _ (s₁.setTop (mkF m 9 #[.val (.ref a0), .val (.int (1 : Int32))] []))
  refine OGo.by (fun _ k => XS.iloadN X0.here hx rfl (hb hby d37_9) rfl k) ?_
  show OGo p e below _ (s₁.setTop (mkF m 10 #[.val (.ref a0), .val (.int (1 : Int32))] [(.int (1 : Int32))]))
  refine OGo.by (fun _ k => XS.iconst X0.here hx rfl (hb hby d37_10) k) ?_
  show OGo p e below _ (s₁.setTop (mkF m 11 #[.val (.ref a0), .val (.int (1 : Int32))] [(.int (1 : Int32)), (.int (1 : Int32))]))
  refine OGo.by (fun _ k => XS.icmpNo X0.here hx rfl (hb hby d37_11) rfl (teq (by decide : (1 : Int32) = (1 : Int32))).2 k) ?_
  show OGo p e below _ (s₁.setTop (mkF m 14 #[.val (.ref a0), .val (.int (1 : Int32))] []))
  refine OGo.by (fun _ k => XS.aloadN X0.here hx rfl (hb hby d37_14) rfl rfl k) ?_
  show OGo p e below _ (s₁.setTop (mkF m 15 #[.val (.ref a0), .val (.int (1 : Int32))] [(.ref a0)]))
  obtain ⟨T1, X1, e1, st1⟩ := getF X0 hx hZ hown (host := "") (Or.inl (hw _ (List.mem_of_getElem? (i := 272) rfl))) Via.refl e0 l_2 (g := (mkF m 15 #[.val (.ref a0), .val (.int (1 : Int32))] [(.ref a0)])) rfl rfl (hb hby d37_15)
  refine OGo.by st1 ?_
  show OGo p e below _ (T1.setTop (mkF m 18 #[.val (.ref a0), .val (.int (1 : Int32))] [(.ref c1)]))
  obtain ⟨T2, X2, e2, st2⟩ := getS2 X1 hx hZ hown (Or.inr (hw _ (List.mem_of_getElem? (i := 271) rfl))) Via.refl e1 (S_e.ext O_0.2) (g := (mkF m 18 #[.val (.ref a0), .val (.int (1 : Int32))] [(.ref c1)])) rfl (hb hby d37_18)
  refine OGo.by st2 ?_
  show OGo p e below _ (T2.setTop (mkF m 21 #[.val (.ref a0), .val (.int (1 : Int32))] [(.ref we), (.ref c1)]))
  refine OGo.by (fun _ k => Jvm.RoadKit.acmp (g := (mkF m 21 #[.val (.ref a0), .val (.int (1 : Int32))] [(.ref we), (.ref c1)])) X2 hx rfl rfl rfl (pc0 := 21) (pc' := 24) (same := false) rfl (hb hby d37_21) rfl (decide_eq_false fun q => ne_e (Value.ref.inj q)) (by decide) (by decide) k) ?_
  show OGo p e below _ (T2.setTop (mkF m 24 #[.val (.ref a0), .val (.int (1 : Int32))] []))
  refine OGo.by (fun _ k => XS.aloadN X2.here hx rfl (hb hby d37_24) rfl rfl k) ?_
  show OGo p e below _ (T2.setTop (mkF m 25 #[.val (.ref a0), .val (.int (1 : Int32))] [(.ref a0)]))
  obtain ⟨T3, X3, e3, st3⟩ := getF X2 hx hZ hown (host := "") (Or.inl (hw _ (List.mem_of_getElem? (i := 272) rfl))) Via.refl e2 l_2 (g := (mkF m 25 #[.val (.ref a0), .val (.int (1 : Int32))] [(.ref a0)])) rfl rfl (hb hby d37_25)
  refine OGo.by st3 ?_
  show OGo p e below _ (T3.setTop (mkF m 28 #[.val (.ref a0), .val (.int (1 : Int32))] [(.ref c1)]))
  obtain ⟨fs, hr, hrun, hended, hW, hsame⟩ := X3.leave (v := some (.ref c1)) (fun h => by rw [Bd.returns] at h; cases h)
  refine OGo.ret (retOut X3 hx Bd.returns rfl (Or.inr (Or.inr (Or.inr (Or.inr ⟨rfl, rfl, rfl⟩)))) (hb hby d37_28) hr) hrun hended ⟨_, _, rfl, ?_, ⟨_, rfl⟩, hW, hsame.mono (by decide) (by decide)⟩
  show Q_rm_get2_1 Z a0 we c0 c1 h0 n0 _ T3.heap _
  rw [e3]
  exact ⟨rfl, N0, rfl⟩
theorem ef_rm_nx2_1 (m : MethodId) (a0 : Addr) : entryFrame m #[(.ref a0)] 3 = mkF m 0 #[.val (.ref a0), .unset, .unset] [] := by first | (simp [entryFrame, mkF, argsToLocals, Value.category]; done) | rfl
def Q_rm_nx2_1 (Z : State) (a0 : Addr) (li : Addr) (we : Addr) (c0 : Addr) (c1 : Addr) (h0 : Heap) (n0 : Nat) (v : Option Value) (h : Heap) (L : List Loc) : Prop := v = some (.ref c1) ∧ Fr n0 L ∧ Keep h0 h [a0] ∧ (Exa Z h a0 "java/util/ImmutableCollections$ListItr") ∧ (Fld Z h a0 "java/util/ImmutableCollections$ListItr" "list" "Ljava/util/List;" (.ref li)) ∧ (Fld Z h a0 "java/util/ImmutableCollections$ListItr" "size" "I" (.int (2 : Int32))) ∧ (Fld Z h a0 "java/util/ImmutableCollections$ListItr" "cursor" "I" (.int (2 : Int32)))
set_option maxRecDepth 65536 in
set_option maxHeartbeats 40000000 in
theorem rm_nx2_1 (l : Launch) (Z : State) (av0 : Array Value) (hw : ∀ d ∈ tables_1, d.before av0 Z = true) (ws : List Jvm.Cond) (a0 : Addr) (li : Addr) (we : Addr) (c0 : Addr) (c1 : Addr) (h0 : Heap) (n0 : Nat) (Z0 : n0 ≤ h0.size) (E0 : Exa Z h0 a0 "java/util/ImmutableCollections$ListItr") (F0 : Fld Z h0 a0 "java/util/ImmutableCollections$ListItr" "list" "Ljava/util/List;" (.ref li)) (F1 : Fld Z h0 a0 "java/util/ImmutableCollections$ListItr" "size" "I" (.int (2 : Int32))) (F2 : Fld Z h0 a0 "java/util/ImmutableCollections$ListItr" "cursor" "I" (.int (1 : Int32))) (g_a0 : n0 ≤ a0) (l_0 : Exa Z h0 li "java/util/ImmutableCollections$List12") (l_1 : Fld Z h0 li "java/util/ImmutableCollections$List12" "e0" "Ljava/lang/Object;" (.ref c0)) (l_2 : Fld Z h0 li "java/util/ImmutableCollections$List12" "e1" "Ljava/lang/Object;" (.ref c1)) (O_0 : Old Z n0 h0) (S_e : Sta Z Z.heap "java/util/ImmutableCollections" "EMPTY" "Ljava/lang/Object;" (.ref we)) (ne_e : c1 ≠ we) :
    MetFree l (⟨"java/util/ImmutableCollections$ListItr", "next", "()Ljava/lang/Object;"⟩ : MethodName) (head1 (Jvm.Cond.codeWith (⟨"java/util/ImmutableCollections$ListItr", "next", "()Ljava/lang/Object;"⟩ : MethodName) jdk_53_method_4_code 3 (some (.object "java/lang/Object")) [(0, 24, 25, 30)] :: ws) ({ frames := 1, cells := 0, slots := 0, locals := 13 } : Room)) (fun a U => a = #[(.ref a0)] ∧ Z.Warmed39 U.vm ∧ U.heap = h0) (fun _ _ _ _ _ => True) (fun _ U o U' => ∃ v L, o = .returned v ∧ Q_rm_nx2_1 Z a0 li we c0 c1 h0 n0 v U'.heap L ∧ FrameEnd U o U' L ({ frames := 1, cells := 0, slots := 0, locals := 13 } : Room).cells ({ frames := 1, cells := 0, slots := 0, locals := 13 } : Room).slots) := by
  refine MetFree.of_bodySF (plainFor_of_name own_pn32) hisWith ?_
  intro p e s m args below meth c s₁ Bd hml0 hP hK
  obtain ⟨rfl, hZ, hh⟩ := hP
  have hx := Bd.exec
  have hby := Bd.bytes
  have hml : c.maxLocals = 3 := hml0
  have hown : s.vm.findClass "java/util/ImmutableCollections$ListItr" = some m.cls := findClass_of_methodNamed Bd.named
  have hnm := (name_of_methodNamed Bd.named Bd.method).1
  have X0 : Stand p l e ({ frames := 1, cells := 0, slots := 0, locals := 13 } : Room) s m #[(.ref a0)] below meth c s₁ [] 0 0 := Stand.of_body Bd
  have e0 : s₁.heap = h0 := by rw [← hh, Bd.state]; rfl
  have N0 := Fr.nil n0
  refine OGo.by (P := fun U' o => ∃ v L, o = .returned v ∧ Q_rm_nx2_1 Z a0 li we c0 c1 h0 n0 v U'.heap L ∧ FrameEnd s o U' L ({ frames := 1, cells := 0, slots := 0, locals := 13 } : Room).cells ({ frames := 1, cells := 0, slots := 0, locals := 13 } : Room).slots) (fun T_ k_ => castTop (ef_rm_nx2_1 m a0) k_) ?_
  show OGo p e below _ (s₁.setTop (mkF m 0 #[.val (.ref a0), .unset, .unset] []))
  refine OGo.by (fun _ k => XS.aloadN X0.here hx rfl (hb hby d32_0) rfl rfl k) ?_
  show OGo p e below _ (s₁.setTop (mkF m 1 #[.val (.ref a0), .unset, .unset] [(.ref a0)]))
  obtain ⟨T1, X1, e1, st1⟩ := getF X0 hx hZ hown (host := "") (Or.inl (hw _ (List.mem_of_getElem? (i := 105) rfl))) Via.refl e0 F2 (g := (mkF m 1 #[.val (.ref a0), .unset, .unset] [(.ref a0)])) rfl rfl (hb hby d32_1)
  refine OGo.by st1 ?_
  show OGo p e below _ (T1.setTop (mkF m 4 #[.val (.ref a0), .unset, .unset] [(.int (1 : Int32))]))
  refine OGo.by (fun _ k => XS.istoreN X1.here hx rfl (hb hby d32_4) rfl (l' := #[.val (.ref a0), .val (.int (1 : Int32)), .unset]) rfl k) ?_
  show OGo p e below _ (T1.setTop (mkF m 5 #[.val (.ref a0), .val (.int (1 : Int32)), .unset] []))
  refine OGo.by (fun _ k => XS.aloadN X1.here hx rfl (hb hby d32_5) rfl rfl k) ?_
  show OGo p e below _ (T1.setTop (mkF m 6 #[.val (.ref a0), .val (.int (1 : Int32)), .unset] [(.ref a0)]))
  obtain ⟨T2, X2, e2, st2⟩ := getF X1 hx hZ hown (host := "") (Or.inl (hw _ (List.mem_of_getElem? (i := 101) rfl))) Via.refl e1 F0 (g := (mkF m 6 #[.val (.ref a0), .val (.int (1 : Int32)), .unset] [(.ref a0)])) rfl rfl (hb hby d32_6)
  refine OGo.by st2 ?_
  show OGo p e below _ (T2.setTop (mkF m 9 #[.val (.ref a0), .val (.int (1 : Int32)), .unset] [(.ref li)]))
  refine OGo.by (fun _ k => XS.iloadN X2.here hx rfl (hb hby d32_9) rfl k) ?_
  show OGo p e below _ (T2.setTop (mkF m 10 #[.val (.ref a0), .val (.int (1 : Int32)), .unset] [(.int (1 : Int32)), (.ref li)]))
  obtain ⟨cq3, kq3, q3a, q3b, q3c⟩ := isOf hZ e2 l_0
  obtain ⟨_, _, ⟨T3, L3, k3, n3⟩, -, X3, ⟨Lc3, hQ3, l3, y3, z3⟩, st3⟩ := X2.interfaceBack hx (xi := (⟨"java/util/List", "get", "(I)Ljava/lang/Object;"⟩ : MethodName)) (y := (⟨"java/util/ImmutableCollections$List12", "get", "(I)Ljava/lang/Object;"⟩ : MethodName)) hown (mvT hZ (hw _ (List.mem_of_getElem? (i := 242) rfl))) (mvT hZ (hw _ (List.mem_of_getElem? (i := 243) rfl))) (mvT hZ (hw _ (List.mem_of_getElem? (i := 244) rfl))) (mvT hZ (hw _ (List.mem_of_getElem? (i := 280) rfl))) (mvT hZ (hw _ (List.mem_of_getElem? (i := 281) rfl))) (mvT hZ (hw _ (List.mem_of_getElem? (i := 282) rfl))) (mvT hZ (hw _ (List.mem_of_getElem? (i := 283) rfl))) (mvT hZ (hw _ (List.mem_of_getElem? (i := 276) rfl))) (by decide) (backOf (W := 0) (rm_get2_1 l Z av0 hw [] li we c0 c1 h0 n0 Z0 l_0 l_1 l_2 O_0 S_e ne_e) hZ (hw _ (List.mem_of_getElem? (i := 284) rfl)) (hw _ (List.mem_of_getElem? (i := 259) rfl)) (by decide) (by decide)) q3a q3b q3c (g := (mkF m 10 #[.val (.ref a0), .val (.int (1 : Int32)), .unset] [(.int (1 : Int32)), (.ref li)])) rfl (by rw [hml]; rfl) (Steps.refl _) (argsL := [(.int (1 : Int32))]) (rest := []) (lenOf own_pd18 rfl) rfl (by show 2 * 0 + _ ≤ _; exact Nat.le_of_eq rfl) (hb hby d32_10) (fun _ _ => ⟨rfl, e2, (by decide : 0 + 0 ≤ _), (by decide : 0 + 0 ≤ _)⟩)
  dsimp only [Pt.U, Pt.locs, Pt.cells, Pt.slots] at X3 l3 y3 z3 st3 hQ3
  subst l3 y3 z3
  obtain ⟨rfl, N3q, e3⟩ := hQ3
  have N3 := Fr.app N0 N3q
  refine OGo.of st3 ?_
  show OGo p e below _ (T3.setTop (mkF m 15 #[.val (.ref a0), .val (.int (1 : Int32)), .unset] [(.ref c1)]))
  refine OGo.by (fun _ k => XS.astoreN X3.here hx rfl (hb hby d32_15) rfl rfl (l' := #[.val (.ref a0), .val (.int (1 : Int32)), .val (.ref c1)]) rfl k) ?_
  show OGo p e below _ (T3.setTop (mkF m 16 #[.val (.ref a0), .val (.int (1 : Int32)), .val (.ref c1)] []))
  refine OGo.by (fun _ k => XS.aloadN X3.here hx rfl (hb hby d32_16) rfl rfl k) ?_
  show OGo p e below _ (T3.setTop (mkF m 17 #[.val (.ref a0), .val (.int (1 : Int32)), .val (.ref c1)] [(.ref a0)]))
  refine OGo.by (fun _ k => XS.iloadN X3.here hx rfl (hb hby d32_17) rfl k) ?_
  show OGo p e below _ (T3.setTop (mkF m 18 #[.val (.ref a0), .val (.int (1 : Int32)), .val (.ref c1)] [(.int (1 : Int32)), (.ref a0)]))
  refine OGo.by (fun _ k => XS.iconst X3.here hx rfl (hb hby d32_18) k) ?_
  show OGo p e below _ (T3.setTop (mkF m 19 #[.val (.ref a0), .val (.int (1 : Int32)), .val (.ref c1)] [(.int (1 : Int32)), (.int (1 : Int32)), (.ref a0)]))
  refine OGo.by (fun _ k => XS.iadd X3.here hx rfl (hb hby d32_19) rfl k) ?_
  show OGo p e below _ (T3.setTop (mkF m 20 #[.val (.ref a0), .val (.int (1 : Int32)), .val (.ref c1)] [(.int (2 : Int32)), (.ref a0)]))
  obtain ⟨T4, h4, X4, e4, W4, st4⟩ := putF X3 hx hZ hown (host := "") (Or.inl (hw _ (List.mem_of_getElem? (i := 105) rfl))) Via.refl e3 F2 E0 (Or.inl (hw _ (List.mem_of_getElem? (i := 106) rfl))) (hw _ (List.mem_of_getElem? (i := 85) rfl)) (ty := .int) (by decide) rfl rfl (g := (mkF m 20 #[.val (.ref a0), .val (.int (1 : Int32)), .val (.ref c1)] [(.int (2 : Int32)), (.ref a0)])) rfl rfl (hb hby d32_20)
  refine OGo.by st4 ?_
  have Fw4 := F2.same W4
  have N4 := Fr.snoc X4 N3 g_a0
  have K4 : Keep h0 h4 [a0] := ((Keep.refl h0 [a0])).wr W4 (Or.inl (List.mem_of_getElem? (i := 0) rfl))
  show OGo p e below _ (T4.setTop (mkF m 23 #[.val (.ref a0), .val (.int (1 : Int32)), .val (.ref c1)] []))
  refine OGo.by (fun _ k => XS.aloadN X4.here hx rfl (hb hby d32_23) rfl rfl k) ?_
  show OGo p e below _ (T4.setTop (mkF m 24 #[.val (.ref a0), .val (.int (1 : Int32)), .val (.ref c1)] [(.ref c1)]))
  obtain ⟨fs, hr, hrun, hended, hW, hsame⟩ := X4.leave (v := some (.ref c1)) (fun h => by rw [Bd.returns] at h; cases h)
  refine OGo.ret (retOut X4 hx Bd.returns rfl (Or.inr (Or.inr (Or.inr (Or.inr ⟨rfl, rfl, rfl⟩)))) (hb hby d32_24) hr) hrun hended ⟨_, _, rfl, ?_, ⟨_, rfl⟩, hW, hsame.mono (by decide) (by decide)⟩
  show Q_rm_nx2_1 Z a0 li we c0 c1 h0 n0 _ T4.heap _
  rw [e4]
  have f5 : Exa Z h4 a0 "java/util/ImmutableCollections$ListItr" := (E0.wr W4)
  have f6 : Fld Z h4 a0 "java/util/ImmutableCollections$ListItr" "list" "Ljava/util/List;" (.ref li) := (F0.other W4 (Or.inr (slot_ne (Or.inr (hw _ (List.mem_of_getElem? (i := 102) rfl))) (Or.inl (hw _ (List.mem_of_getElem? (i := 106) rfl))) (by decide) (t := (.object "java/util/List")) (t' := .int) (by decide) (by decide))))
  have f7 : Fld Z h4 a0 "java/util/ImmutableCollections$ListItr" "size" "I" (.int (2 : Int32)) := (F1.other W4 (Or.inr (slot_ne (Or.inr (hw _ (List.mem_of_getElem? (i := 104) rfl))) (Or.inl (hw _ (List.mem_of_getElem? (i := 106) rfl))) (by decide) (t := .int) (t' := .int) (by decide) (by decide))))
  exact ⟨rfl, N4, K4, f5, f6, f7, Fw4⟩
theorem ef_rm_hn2_2 (m : MethodId) (a0 : Addr) : entryFrame m #[(.ref a0)] 1 = mkF m 0 #[.val (.ref a0)] [] := by first | (simp [entryFrame, mkF, argsToLocals, Value.category]; done) | rfl
def Q_rm_hn2_2 (Z : State) (a0 : Addr) (h0 : Heap) (n0 : Nat) (v : Option Value) (h : Heap) (L : List Loc) : Prop := v = some (.int (0 : Int32)) ∧ Fr n0 L ∧ h = h0
set_option maxRecDepth 65536 in
set_option maxHeartbeats 40000000 in
theorem rm_hn2_2 (l : Launch) (Z : State) (av0 : Array Value) (hw : ∀ d ∈ tables_1, d.before av0 Z = true) (ws : List Jvm.Cond) (a0 : Addr) (h0 : Heap) (n0 : Nat) (Z0 : n0 ≤ h0.size) (F1 : Fld Z h0 a0 "java/util/ImmutableCollections$ListItr" "size" "I" (.int (2 : Int32))) (F2 : Fld Z h0 a0 "java/util/ImmutableCollections$ListItr" "cursor" "I" (.int (2 : Int32))) :
    MetFree l (⟨"java/util/ImmutableCollections$ListItr", "hasNext", "()Z"⟩ : MethodName) (head1 (Jvm.Cond.code (⟨"java/util/ImmutableCollections$ListItr", "hasNext", "()Z"⟩ : MethodName) jdk_53_method_3_code 1 (some .boolean) :: ws) ({ frames := 0, cells := 0, slots := 0, locals := 0 } : Room)) (fun a U => a = #[(.ref a0)] ∧ Z.Warmed39 U.vm ∧ U.heap = h0) (fun _ _ _ _ _ => True) (fun _ U o U' => ∃ v L, o = .returned v ∧ Q_rm_hn2_2 Z a0 h0 n0 v U'.heap L ∧ FrameEnd U o U' L ({ frames := 0, cells := 0, slots := 0, locals := 0 } : Room).cells ({ frames := 0, cells := 0, slots := 0, locals := 0 } : Room).slots) := by
  refine MetFree.of_bodySF (plainFor_of_name own_pn15) hisR ?_
  intro p e s m args below meth c s₁ Bd hml0 hP hK
  obtain ⟨rfl, hZ, hh⟩ := hP
  have hx := Bd.exec
  have hby := Bd.bytes
  have hml : c.maxLocals = 1 := hml0
  have hown : s.vm.findClass "java/util/ImmutableCollections$ListItr" = some m.cls := findClass_of_methodNamed Bd.named
  have hnm := (name_of_methodNamed Bd.named Bd.method).1
  have X0 : Stand p l e ({ frames := 0, cells := 0, slots := 0, locals := 0 } : Room) s m #[(.ref a0)] below meth c s₁ [] 0 0 := Stand.of_body Bd
  have e0 : s₁.heap = h0 := by rw [← hh, Bd.state]; rfl
  have N0 := Fr.nil n0
  refine OGo.by (P := fun U' o => ∃ v L, o = .returned v ∧ Q_rm_hn2_2 Z a0 h0 n0 v U'.heap L ∧ FrameEnd s o U' L ({ frames := 0, cells := 0, slots := 0, locals := 0 } : Room).cells ({ frames := 0, cells := 0, slots := 0, locals := 0 } : Room).slots) (fun T_ k_ => castTop (ef_rm_hn2_2 m a0) k_) ?_
  show OGo p e below _ (s₁.setTop (mkF m 0 #[.val (.ref a0)] []))
  refine OGo.by (fun _ k => XS.aloadN X0.here hx rfl (hb hby d15_0) rfl rfl k) ?_
  show OGo p e below _ (s₁.setTop (mkF m 1 #[.val (.ref a0)] [(.ref a0)]))
  obtain ⟨T1, X1, e1, st1⟩ := getF X0 hx hZ hown (host := "") (Or.inl (hw _ (List.mem_of_getElem? (i := 105) rfl))) Via.refl e0 F2 (g := (mkF m 1 #[.val (.ref a0)] [(.ref a0)])) rfl rfl (hb hby d15_1)
  refine OGo.by st1 ?_
  show OGo p e below _ (T1.setTop (mkF m 4 #[.val (.ref a0)] [(.int (2 : Int32))]))
  refine OGo.by (fun _ k => XS.aloadN X1.here hx rfl (hb hby d15_4) rfl rfl k) ?_
  show OGo p e below _ (T1.setTop (mkF m 5 #[.val (.ref a0)] [(.ref a0), (.int (2 : Int32))]))
  obtain ⟨T2, X2, e2, st2⟩ := getF X1 hx hZ hown (host := "") (Or.inl (hw _ (List.mem_of_getElem? (i := 103) rfl))) Via.refl e1 F1 (g := (mkF m 5 #[.val (.ref a0)] [(.ref a0), (.int (2 : Int32))])) rfl rfl (hb hby d15_5)
  refine OGo.by st2 ?_
  show OGo p e below _ (T2.setTop (mkF m 8 #[.val (.ref a0)] [(.int (2 : Int32)), (.int (2 : Int32))]))
  refine OGo.by (fun _ k => XS.icmpYes X2.here hx rfl (pc0 := 8) (pc' := 15) rfl (hb hby d15_8) rfl (teq (by decide : (2 : Int32) = (2 : Int32))).1 (by decide) (by decide) k) ?_
  show OGo p e below _ (T2.setTop (mkF m 15 #[.val (.ref a0)] []))
  refine OGo.by (fun _ k => XS.iconst X2.here hx rfl (hb hby d15_15) k) ?_
  show OGo p e below _ (T2.setTop (mkF m 16 #[.val (.ref a0)] [(.int (0 : Int32))]))
  obtain ⟨fs, hr, hrun, hended, hW, hsame⟩ := X2.leave (v := some (.int (0 : Int32))) (fun h => by rw [Bd.returns] at h; cases h)
  refine OGo.ret (retN X2 hx (t := .boolean) Bd.returns (by simp) (hb hby d15_16) hr) hrun hended ⟨_, _, rfl, ?_, ⟨_, rfl⟩, hW, hsame.mono (by decide) (by decide)⟩
  show Q_rm_hn2_2 Z a0 h0 n0 _ T2.heap _
  rw [e2]
  exact ⟨rfl, N0, rfl⟩
theorem ef_rm_tot2 (m : MethodId) (a0 : Addr) : entryFrame m #[(.ref a0)] 5 = mkF m 0 #[.val (.ref a0), .unset, .unset, .unset, .unset] [] := by first | (simp [entryFrame, mkF, argsToLocals, Value.category]; done) | rfl
def Q_rm_tot2 (Z : State) (a0 : Addr) (li : Addr) (we : Addr) (c0 : Addr) (c1 : Addr) (q0 : Int64) (q1 : Int64) (h0 : Heap) (n0 : Nat) (v : Option Value) (h : Heap) (L : List Loc) : Prop := v = some (.long (((0 : Int64) + q0) + q1)) ∧ Fr n0 L ∧ Keep h0 h []
set_option maxRecDepth 65536 in
set_option maxHeartbeats 40000000 in
theorem rm_tot2 (l : Launch) (Z : State) (av0 : Array Value) (hw : ∀ d ∈ tables_1, d.before av0 Z = true) (ws : List Jvm.Cond) (a0 : Addr) (li : Addr) (we : Addr) (c0 : Addr) (c1 : Addr) (q0 : Int64) (q1 : Int64) (h0 : Heap) (n0 : Nat) (Z0 : n0 ≤ h0.size) (F0 : Fld Z h0 a0 "com/example/kept_inbox/keptinbox/Unread" "conversations" "Ljava/util/List;" (.ref li)) (l_0 : Exa Z h0 li "java/util/ImmutableCollections$List12") (l_1 : Fld Z h0 li "java/util/ImmutableCollections$List12" "e0" "Ljava/lang/Object;" (.ref c0)) (l_2 : Fld Z h0 li "java/util/ImmutableCollections$List12" "e1" "Ljava/lang/Object;" (.ref c1)) (O_0 : Old Z n0 h0) (S_e : Sta Z Z.heap "java/util/ImmutableCollections" "EMPTY" "Ljava/lang/Object;" (.ref we)) (ne_e : c1 ≠ we) (Ec0 : Exa Z h0 c0 "com/example/kept_inbox/keptinbox/UnreadConversation") (Fc0 : Fld Z h0 c0 "com/example/kept_inbox/keptinbox/UnreadConversation" "waiting" "J" (.long q0)) (Ec1 : Exa Z h0 c1 "com/example/kept_inbox/keptinbox/UnreadConversation") (Fc1 : Fld Z h0 c1 "com/example/kept_inbox/keptinbox/UnreadConversation" "waiting" "J" (.long q1)) :
    MetFree l (⟨"com/example/kept_inbox/keptinbox/Unread", "total", "()J"⟩ : MethodName) (head1 (Jvm.Cond.code (⟨"com/example/kept_inbox/keptinbox/Unread", "total", "()J"⟩ : MethodName) prog_7_method_2_code 5 (some .long) :: ws) ({ frames := 3, cells := 1, slots := 4, locals := 39 } : Room)) (fun a U => a = #[(.ref a0)] ∧ Z.Warmed39 U.vm ∧ U.heap = h0) (fun _ _ _ _ _ => True) (fun _ U o U' => ∃ v L, o = .returned v ∧ Q_rm_tot2 Z a0 li we c0 c1 q0 q1 h0 n0 v U'.heap L ∧ FrameEnd U o U' L ({ frames := 3, cells := 1, slots := 4, locals := 39 } : Room).cells ({ frames := 3, cells := 1, slots := 4, locals := 39 } : Room).slots) := by
  refine MetFree.of_bodySF (plainFor_of_name own_pn11) hisR ?_
  intro p e s m args below meth c s₁ Bd hml0 hP hK
  obtain ⟨rfl, hZ, hh⟩ := hP
  have hx := Bd.exec
  have hby := Bd.bytes
  have hml : c.maxLocals = 5 := hml0
  have hown : s.vm.findClass "com/example/kept_inbox/keptinbox/Unread" = some m.cls := findClass_of_methodNamed Bd.named
  have hnm := (name_of_methodNamed Bd.named Bd.method).1
  have X0 : Stand p l e ({ frames := 3, cells := 1, slots := 4, locals := 39 } : Room) s m #[(.ref a0)] below meth c s₁ [] 0 0 := Stand.of_body Bd
  have e0 : s₁.heap = h0 := by rw [← hh, Bd.state]; rfl
  have N0 := Fr.nil n0
  refine OGo.by (P := fun U' o => ∃ v L, o = .returned v ∧ Q_rm_tot2 Z a0 li we c0 c1 q0 q1 h0 n0 v U'.heap L ∧ FrameEnd s o U' L ({ frames := 3, cells := 1, slots := 4, locals := 39 } : Room).cells ({ frames := 3, cells := 1, slots := 4, locals := 39 } : Room).slots) (fun T_ k_ => castTop (ef_rm_tot2 m a0) k_) ?_
  show OGo p e below _ (s₁.setTop (mkF m 0 #[.val (.ref a0), .unset, .unset, .unset, .unset] []))
  refine OGo.by (fun _ k => XS.lconst X0.here hx rfl (hb hby d11_0) k) ?_
  show OGo p e below _ (s₁.setTop (mkF m 1 #[.val (.ref a0), .unset, .unset, .unset, .unset] [(.long (0 : Int64))]))
  refine OGo.by (fun _ k => XS.lstoreN X0.here hx rfl (hb hby d11_1) rfl (l' := #[.val (.ref a0), .val (.long (0 : Int64)), .second, .unset, .unset]) rfl k) ?_
  show OGo p e below _ (s₁.setTop (mkF m 2 #[.val (.ref a0), .val (.long (0 : Int64)), .second, .unset, .unset] []))
  refine OGo.by (fun _ k => XS.aloadN X0.here hx rfl (hb hby d11_2) rfl rfl k) ?_
  show OGo p e below _ (s₁.setTop (mkF m 3 #[.val (.ref a0), .val (.long (0 : Int64)), .second, .unset, .unset] [(.ref a0)]))
  obtain ⟨T1, X1, e1, st1⟩ := getF X0 hx hZ hown (host := "") (Or.inl (hw _ (List.mem_of_getElem? (i := 67) rfl))) Via.refl e0 F0 (g := (mkF m 3 #[.val (.ref a0), .val (.long (0 : Int64)), .second, .unset, .unset] [(.ref a0)])) rfl rfl (hb hby d11_3)
  refine OGo.by st1 ?_
  show OGo p e below _ (T1.setTop (mkF m 6 #[.val (.ref a0), .val (.long (0 : Int64)), .second, .unset, .unset] [(.ref li)]))
  obtain ⟨cq2, kq2, q2a, q2b, q2c⟩ := isOf hZ e1 l_0
  obtain ⟨_, _, ⟨T2, L2, k2, n2⟩, -, X2, ⟨Lc2, hQ2, l2, y2, z2⟩, st2⟩ := X1.interfaceBack hx (xi := (⟨"java/util/List", "iterator", "()Ljava/util/Iterator;"⟩ : MethodName)) (y := (⟨"java/util/ImmutableCollections$AbstractImmutableList", "iterator", "()Ljava/util/Iterator;"⟩ : MethodName)) hown (mvT hZ (hw _ (List.mem_of_getElem? (i := 74) rfl))) (mvT hZ (hw _ (List.mem_of_getElem? (i := 75) rfl))) (mvT hZ (hw _ (List.mem_of_getElem? (i := 76) rfl))) (mvT hZ (hw _ (List.mem_of_getElem? (i := 274) rfl))) (mvT hZ (hw _ (List.mem_of_getElem? (i := 78) rfl))) (mvT hZ (hw _ (List.mem_of_getElem? (i := 79) rfl))) (mvT hZ (hw _ (List.mem_of_getElem? (i := 275) rfl))) (mvT hZ (hw _ (List.mem_of_getElem? (i := 276) rfl))) (by decide) (backOf (W := 0) (rm_itr2 l Z av0 hw [] li we c0 c1 h0 n0 Z0 l_0 l_1 l_2 O_0 S_e ne_e) hZ (hw _ (List.mem_of_getElem? (i := 83) rfl)) (hw _ (List.mem_of_getElem? (i := 82) rfl)) (by decide) (by decide)) q2a q2b q2c (g := (mkF m 6 #[.val (.ref a0), .val (.long (0 : Int64)), .second, .unset, .unset] [(.ref li)])) rfl (by rw [hml]; rfl) (Steps.refl _) (argsL := []) (rest := []) (lenOf own_pd17 rfl) rfl (by show 2 * 0 + _ ≤ _; exact Nat.le_of_eq rfl) (hb hby d11_6) (fun _ _ => ⟨rfl, e1, (by decide : 0 + 1 ≤ _), (by decide : 0 + 4 ≤ _)⟩)
  dsimp only [Pt.U, Pt.locs, Pt.cells, Pt.slots] at X2 l2 y2 z2 st2 hQ2
  subst l2 y2 z2
  obtain ⟨b_2, rfl, N2q, Kc2, G2_0, G2_1, G2_2, G2_3, G2_4, G2_5⟩ := hQ2
  have N2 := Fr.app N0 N2q
  have ne_a0_b_2 : a0 ≠ b_2 := Nat.ne_of_lt (Nat.lt_of_lt_of_le F0.lt G2_0)
  have ne_li_b_2 : li ≠ b_2 := Nat.ne_of_lt (Nat.lt_of_lt_of_le l_0.lt G2_0)
  have ne_c0_b_2 : c0 ≠ b_2 := Nat.ne_of_lt (Nat.lt_of_lt_of_le Ec0.lt G2_0)
  have ne_c1_b_2 : c1 ≠ b_2 := Nat.ne_of_lt (Nat.lt_of_lt_of_le Ec1.lt G2_0)
  have g_b_2 : n0 ≤ b_2 := Nat.le_trans Z0 G2_0
  have sz_b_2 : h0.size ≤ b_2 := Nat.le_trans (Nat.le_refl _) G2_0
  have K2 : Keep h0 T2.heap [] := ((Keep.refl h0 [])).trans Kc2 (all0 (P := fun x => x ∈ ([] : List Addr) ∨ h0.size ≤ x))
  refine OGo.of st2 ?_
  show OGo p e below _ (T2.setTop (mkF m 11 #[.val (.ref a0), .val (.long (0 : Int64)), .second, .unset, .unset] [(.ref b_2)]))
  refine OGo.by (fun _ k => XS.astoreN X2.here hx rfl (hb hby d11_11) rfl rfl (l' := #[.val (.ref a0), .val (.long (0 : Int64)), .second, .val (.ref b_2), .unset]) rfl k) ?_
  show OGo p e below _ (T2.setTop (mkF m 12 #[.val (.ref a0), .val (.long (0 : Int64)), .second, .val (.ref b_2), .unset] []))
  refine OGo.by (fun _ k => XS.aloadN X2.here hx rfl (hb hby d11_12) rfl rfl k) ?_
  show OGo p e below _ (T2.setTop (mkF m 13 #[.val (.ref a0), .val (.long (0 : Int64)), .second, .val (.ref b_2), .unset] [(.ref b_2)]))
  obtain ⟨cq3, kq3, q3a, q3b, q3c⟩ := isOf hZ rfl G2_2
  obtain ⟨_, _, ⟨T3, L3, k3, n3⟩, -, X3, ⟨Lc3, hQ3, l3, y3, z3⟩, st3⟩ := X2.interfaceBack hx (xi := (⟨"java/util/Iterator", "hasNext", "()Z"⟩ : MethodName)) (y := (⟨"java/util/ImmutableCollections$ListItr", "hasNext", "()Z"⟩ : MethodName)) hown (mvT hZ (hw _ (List.mem_of_getElem? (i := 109) rfl))) (mvT hZ (hw _ (List.mem_of_getElem? (i := 110) rfl))) (mvT hZ (hw _ (List.mem_of_getElem? (i := 111) rfl))) (mvT hZ (hw _ (List.mem_of_getElem? (i := 112) rfl))) (mvT hZ (hw _ (List.mem_of_getElem? (i := 113) rfl))) (mvT hZ (hw _ (List.mem_of_getElem? (i := 114) rfl))) (mvT hZ (hw _ (List.mem_of_getElem? (i := 115) rfl))) (mvT hZ (hw _ (List.mem_of_getElem? (i := 116) rfl))) (by decide) (backOf (W := 0) (rm_hn2_0 l Z av0 hw [] b_2 T2.heap n0 (Nat.le_trans Z0 K2.1) G2_4 G2_5) hZ (hw _ (List.mem_of_getElem? (i := 117) rfl)) (hw _ (List.mem_of_getElem? (i := 86) rfl)) (by decide) (by decide)) q3a q3b q3c (g := (mkF m 13 #[.val (.ref a0), .val (.long (0 : Int64)), .second, .val (.ref b_2), .unset] [(.ref b_2)])) rfl (by rw [hml]; rfl) (Steps.refl _) (argsL := []) (rest := []) (lenOf own_pd6 rfl) rfl (by show 2 * 0 + _ ≤ _; exact Nat.le_of_eq rfl) (hb hby d11_13) (fun _ _ => ⟨rfl, rfl, (by decide : 1 + 0 ≤ _), (by decide : 4 + 0 ≤ _)⟩)
  dsimp only [Pt.U, Pt.locs, Pt.cells, Pt.slots] at X3 l3 y3 z3 st3 hQ3
  subst l3 y3 z3
  obtain ⟨rfl, N3q, e3⟩ := hQ3
  have N3 := Fr.app N2 N3q
  refine OGo.of st3 ?_
  show OGo p e below _ (T3.setTop (mkF m 18 #[.val (.ref a0), .val (.long (0 : Int64)), .second, .val (.ref b_2), .unset] [(.int (1 : Int32))]))
  refine OGo.by (fun _ k => XS.ifNo X3.here hx rfl (hb hby d11_18) rfl ((if0 _ _).trans (feq (by decide : ¬ ((1 : Int32) = (0 : Int32)))).1) k) ?_
  show OGo p e below _ (T3.setTop (mkF m 21 #[.val (.ref a0), .val (.long (0 : Int64)), .second, .val (.ref b_2), .unset] []))
  refine OGo.by (fun _ k => XS.aloadN X3.here hx rfl (hb hby d11_21) rfl rfl k) ?_
  show OGo p e below _ (T3.setTop (mkF m 22 #[.val (.ref a0), .val (.long (0 : Int64)), .second, .val (.ref b_2), .unset] [(.ref b_2)]))
  have f5 : Exa Z T2.heap li "java/util/ImmutableCollections$List12" := (l_0.keep Kc2)
  have f6 : Fld Z T2.heap li "java/util/ImmutableCollections$List12" "e0" "Ljava/lang/Object;" (.ref c0) := (l_1.keep Kc2 nin0)
  have f7 : Fld Z T2.heap li "java/util/ImmutableCollections$List12" "e1" "Ljava/lang/Object;" (.ref c1) := (l_2.keep Kc2 nin0)
  have f8 : Old Z n0 T2.heap := (O_0.keep Kc2 all0)
  obtain ⟨cq4, kq4, q4a, q4b, q4c⟩ := isOf hZ e3 G2_2
  obtain ⟨_, _, ⟨T4, L4, k4, n4⟩, -, X4, ⟨Lc4, hQ4, l4, y4, z4⟩, st4⟩ := X3.interfaceBack hx (xi := (⟨"java/util/Iterator", "next", "()Ljava/lang/Object;"⟩ : MethodName)) (y := (⟨"java/util/ImmutableCollections$ListItr", "next", "()Ljava/lang/Object;"⟩ : MethodName)) hown (mvT hZ (hw _ (List.mem_of_getElem? (i := 234) rfl))) (mvT hZ (hw _ (List.mem_of_getElem? (i := 235) rfl))) (mvT hZ (hw _ (List.mem_of_getElem? (i := 236) rfl))) (mvT hZ (hw _ (List.mem_of_getElem? (i := 237) rfl))) (mvT hZ (hw _ (List.mem_of_getElem? (i := 238) rfl))) (mvT hZ (hw _ (List.mem_of_getElem? (i := 239) rfl))) (mvT hZ (hw _ (List.mem_of_getElem? (i := 240) rfl))) (mvT hZ (hw _ (List.mem_of_getElem? (i := 116) rfl))) (by decide) (backOfWith (W := 0) (rm_nx2_0 l Z av0 hw [] b_2 li we c0 c1 T2.heap n0 (Nat.le_trans Z0 K2.1) G2_2 G2_3 G2_4 G2_5 g_b_2 f5 f6 f7 f8 S_e ne_e) hZ (hw _ (List.mem_of_getElem? (i := 241) rfl)) (hw _ (List.mem_of_getElem? (i := 86) rfl)) (by decide) (by decide)) q4a q4b q4c (g := (mkF m 22 #[.val (.ref a0), .val (.long (0 : Int64)), .second, .val (.ref b_2), .unset] [(.ref b_2)])) rfl (by rw [hml]; rfl) (Steps.refl _) (argsL := []) (rest := []) (lenOf own_pd19 rfl) rfl (by show 2 * 0 + _ ≤ _; exact Nat.le_of_eq rfl) (hb hby d11_22) (fun _ _ => ⟨rfl, e3, (by decide : 1 + 0 ≤ _), (by decide : 4 + 0 ≤ _)⟩)
  dsimp only [Pt.U, Pt.locs, Pt.cells, Pt.slots] at X4 l4 y4 z4 st4 hQ4
  subst l4 y4 z4
  obtain ⟨rfl, N4q, Kc4, G4_0, G4_1, G4_2, G4_3⟩ := hQ4
  have N4 := Fr.app N3 N4q
  have K4 : Keep h0 T4.heap [] := (K2).trans Kc4 (allS (P := fun x => x ∈ ([] : List Addr) ∨ h0.size ≤ x) (Or.inr sz_b_2) (all0 (P := fun x => x ∈ ([] : List Addr) ∨ h0.size ≤ x)))
  refine OGo.of st4 ?_
  show OGo p e below _ (T4.setTop (mkF m 27 #[.val (.ref a0), .val (.long (0 : Int64)), .second, .val (.ref b_2), .unset] [(.ref c0)]))
  have f9 : Exa Z T4.heap c0 "com/example/kept_inbox/keptinbox/UnreadConversation" := ((Ec0.keep Kc2).keep Kc4)
  obtain ⟨T10, X10, e10, st10⟩ := castY X4 hx hZ hown (hw _ (List.mem_of_getElem? (i := 250) rfl)) rfl (Ins.self f9) (g := (mkF m 27 #[.val (.ref a0), .val (.long (0 : Int64)), .second, .val (.ref b_2), .unset] [(.ref c0)])) rfl rfl (hb hby d11_27)
  refine OGo.by st10 ?_
  show OGo p e below _ (T10.setTop (mkF m 30 #[.val (.ref a0), .val (.long (0 : Int64)), .second, .val (.ref b_2), .unset] [(.ref c0)]))
  refine OGo.by (fun _ k => XS.astore X10.here hx rfl (hb hby d11_30) rfl rfl (l' := #[.val (.ref a0), .val (.long (0 : Int64)), .second, .val (.ref b_2), .val (.ref c0)]) rfl k) ?_
  show OGo p e below _ (T10.setTop (mkF m 32 #[.val (.ref a0), .val (.long (0 : Int64)), .second, .val (.ref b_2), .val (.ref c0)] []))
  refine OGo.by (fun _ k => XS.lloadN X10.here hx rfl (hb hby d11_32) rfl k) ?_
  show OGo p e below _ (T10.setTop (mkF m 33 #[.val (.ref a0), .val (.long (0 : Int64)), .second, .val (.ref b_2), .val (.ref c0)] [(.long (0 : Int64))]))
  refine OGo.by (fun _ k => XS.aload X10.here hx rfl (hb hby d11_33) rfl rfl k) ?_
  show OGo p e below _ (T10.setTop (mkF m 35 #[.val (.ref a0), .val (.long (0 : Int64)), .second, .val (.ref b_2), .val (.ref c0)] [(.ref c0), (.long (0 : Int64))]))
  have f12 : Fld Z T4.heap c0 "com/example/kept_inbox/keptinbox/UnreadConversation" "waiting" "J" (.long q0) := ((Fc0.keep Kc2 nin0).keep Kc4 (ninS ne_c0_b_2 nin0))
  obtain ⟨cq11, kq11, q11a, q11b, q11c⟩ := isOf hZ e10 f9
  obtain ⟨_, _, ⟨T11, L11, k11, n11⟩, -, X11, ⟨Lc11, hQ11, l11, y11, z11⟩, st11⟩ := X10.virtualBack hx (y := (⟨"com/example/kept_inbox/keptinbox/UnreadConversation", "waiting", "()J"⟩ : MethodName)) (z := (⟨"com/example/kept_inbox/keptinbox/UnreadConversation", "waiting", "()J"⟩ : MethodName)) hown (mvT hZ (hw _ (List.mem_of_getElem? (i := 252) rfl))) (mvT hZ (hw _ (List.mem_of_getElem? (i := 253) rfl))) (notFace_of_selects (args := #[]) (mvT hZ (hw _ (List.mem_of_getElem? (i := 255) rfl)))) (mvT hZ (hw _ (List.mem_of_getElem? (i := 255) rfl))) (mvT hZ (hw _ (List.mem_of_getElem? (i := 254) rfl))) (by decide) (backOf (W := 2) (rm34 l Z av0 hw [] c0 q0 T4.heap n0 (Nat.le_trans Z0 K4.1) f12) hZ (hw _ (List.mem_of_getElem? (i := 256) rfl)) (hw _ (List.mem_of_getElem? (i := 120) rfl)) (by decide) (by decide)) q11a q11c (g := (mkF m 35 #[.val (.ref a0), .val (.long (0 : Int64)), .second, .val (.ref b_2), .val (.ref c0)] [(.ref c0), (.long (0 : Int64))])) rfl (by rw [hml]; rfl) (Steps.refl _) (argsL := []) (rest := [(.long (0 : Int64))]) (lenOf own_pd20 rfl) rfl (by show 2 * 0 + _ ≤ _; exact Nat.le_of_eq rfl) (hb hby d11_35) (fun _ _ => ⟨rfl, e10, (by decide : 1 + 0 ≤ _), (by decide : 4 + 0 ≤ _)⟩)
  dsimp only [Pt.U, Pt.locs, Pt.cells, Pt.slots] at X11 l11 y11 z11 st11 hQ11
  subst l11 y11 z11
  obtain ⟨rfl, N11q, e11⟩ := hQ11
  have N11 := Fr.app N4 N11q
  refine OGo.of st11 ?_
  show OGo p e below _ (T11.setTop (mkF m 38 #[.val (.ref a0), .val (.long (0 : Int64)), .second, .val (.ref b_2), .val (.ref c0)] [(.long q0), (.long (0 : Int64))]))
  refine OGo.by (fun _ k => XS.ladd X11.here hx rfl (hb hby d11_38) rfl k) ?_
  show OGo p e below _ (T11.setTop (mkF m 39 #[.val (.ref a0), .val (.long (0 : Int64)), .second, .val (.ref b_2), .val (.ref c0)] [(.long ((0 : Int64) + q0))]))
  refine OGo.by (fun _ k => XS.lstoreN X11.here hx rfl (hb hby d11_39) rfl (l' := #[.val (.ref a0), .val (.long ((0 : Int64) + q0)), .second, .val (.ref b_2), .val (.ref c0)]) rfl k) ?_
  show OGo p e below _ (T11.setTop (mkF m 40 #[.val (.ref a0), .val (.long ((0 : Int64) + q0)), .second, .val (.ref b_2), .val (.ref c0)] []))
  refine OGo.by (fun _ k => XS.goto X11.here hx rfl (pc0 := 40) (pc' := 12) rfl (hb hby d11_40) (by decide) (by decide) k) ?_
  show OGo p e below _ (T11.setTop (mkF m 12 #[.val (.ref a0), .val (.long ((0 : Int64) + q0)), .second, .val (.ref b_2), .val (.ref c0)] []))
  refine OGo.by (fun _ k => XS.aloadN X11.here hx rfl (hb hby d11_12) rfl rfl k) ?_
  show OGo p e below _ (T11.setTop (mkF m 13 #[.val (.ref a0), .val (.long ((0 : Int64) + q0)), .second, .val (.ref b_2), .val (.ref c0)] [(.ref b_2)]))
  obtain ⟨cq13, kq13, q13a, q13b, q13c⟩ := isOf hZ e11 G4_0
  obtain ⟨_, _, ⟨T13, L13, k13, n13⟩, -, X13, ⟨Lc13, hQ13, l13, y13, z13⟩, st13⟩ := X11.interfaceBack hx (xi := (⟨"java/util/Iterator", "hasNext", "()Z"⟩ : MethodName)) (y := (⟨"java/util/ImmutableCollections$ListItr", "hasNext", "()Z"⟩ : MethodName)) hown (mvT hZ (hw _ (List.mem_of_getElem? (i := 109) rfl))) (mvT hZ (hw _ (List.mem_of_getElem? (i := 110) rfl))) (mvT hZ (hw _ (List.mem_of_getElem? (i := 111) rfl))) (mvT hZ (hw _ (List.mem_of_getElem? (i := 112) rfl))) (mvT hZ (hw _ (List.mem_of_getElem? (i := 113) rfl))) (mvT hZ (hw _ (List.mem_of_getElem? (i := 114) rfl))) (mvT hZ (hw _ (List.mem_of_getElem? (i := 115) rfl))) (mvT hZ (hw _ (List.mem_of_getElem? (i := 116) rfl))) (by decide) (backOf (W := 0) (rm_hn2_1 l Z av0 hw [] b_2 T4.heap n0 (Nat.le_trans Z0 K4.1) G4_2 G4_3) hZ (hw _ (List.mem_of_getElem? (i := 117) rfl)) (hw _ (List.mem_of_getElem? (i := 86) rfl)) (by decide) (by decide)) q13a q13b q13c (g := (mkF m 13 #[.val (.ref a0), .val (.long ((0 : Int64) + q0)), .second, .val (.ref b_2), .val (.ref c0)] [(.ref b_2)])) rfl (by rw [hml]; rfl) (Steps.refl _) (argsL := []) (rest := []) (lenOf own_pd6 rfl) rfl (by show 2 * 0 + _ ≤ _; exact Nat.le_of_eq rfl) (hb hby d11_13) (fun _ _ => ⟨rfl, e11, (by decide : 1 + 0 ≤ _), (by decide : 4 + 0 ≤ _)⟩)
  dsimp only [Pt.U, Pt.locs, Pt.cells, Pt.slots] at X13 l13 y13 z13 st13 hQ13
  subst l13 y13 z13
  obtain ⟨rfl, N13q, e13⟩ := hQ13
  have N13 := Fr.app N11 N13q
  refine OGo.of st13 ?_
  show OGo p e below _ (T13.setTop (mkF m 18 #[.val (.ref a0), .val (.long ((0 : Int64) + q0)), .second, .val (.ref b_2), .val (.ref c0)] [(.int (1 : Int32))]))
  refine OGo.by (fun _ k => XS.ifNo X13.here hx rfl (hb hby d11_18) rfl ((if0 _ _).trans (feq (by decide : ¬ ((1 : Int32) = (0 : Int32)))).1) k) ?_
  show OGo p e below _ (T13.setTop (mkF m 21 #[.val (.ref a0), .val (.long ((0 : Int64) + q0)), .second, .val (.ref b_2), .val (.ref c0)] []))
  refine OGo.by (fun _ k => XS.aloadN X13.here hx rfl (hb hby d11_21) rfl rfl k) ?_
  show OGo p e below _ (T13.setTop (mkF m 22 #[.val (.ref a0), .val (.long ((0 : Int64) + q0)), .second, .val (.ref b_2), .val (.ref c0)] [(.ref b_2)]))
  have f15 : Exa Z T4.heap li "java/util/ImmutableCollections$List12" := (f5.keep Kc4)
  have f16 : Fld Z T4.heap li "java/util/ImmutableCollections$List12" "e0" "Ljava/lang/Object;" (.ref c0) := (f6.keep Kc4 (ninS ne_li_b_2 nin0))
  have f17 : Fld Z T4.heap li "java/util/ImmutableCollections$List12" "e1" "Ljava/lang/Object;" (.ref c1) := (f7.keep Kc4 (ninS ne_li_b_2 nin0))
  have f18 : Old Z n0 T4.heap := (f8.keep Kc4 (allS g_b_2 all0))
  obtain ⟨cq14, kq14, q14a, q14b, q14c⟩ := isOf hZ e13 G4_0
  obtain ⟨_, _, ⟨T14, L14, k14, n14⟩, -, X14, ⟨Lc14, hQ14, l14, y14, z14⟩, st14⟩ := X13.interfaceBack hx (xi := (⟨"java/util/Iterator", "next", "()Ljava/lang/Object;"⟩ : MethodName)) (y := (⟨"java/util/ImmutableCollections$ListItr", "next", "()Ljava/lang/Object;"⟩ : MethodName)) hown (mvT hZ (hw _ (List.mem_of_getElem? (i := 234) rfl))) (mvT hZ (hw _ (List.mem_of_getElem? (i := 235) rfl))) (mvT hZ (hw _ (List.mem_of_getElem? (i := 236) rfl))) (mvT hZ (hw _ (List.mem_of_getElem? (i := 237) rfl))) (mvT hZ (hw _ (List.mem_of_getElem? (i := 238) rfl))) (mvT hZ (hw _ (List.mem_of_getElem? (i := 239) rfl))) (mvT hZ (hw _ (List.mem_of_getElem? (i := 240) rfl))) (mvT hZ (hw _ (List.mem_of_getElem? (i := 116) rfl))) (by decide) (backOfWith (W := 0) (rm_nx2_1 l Z av0 hw [] b_2 li we c0 c1 T4.heap n0 (Nat.le_trans Z0 K4.1) G4_0 G4_1 G4_2 G4_3 g_b_2 f15 f16 f17 f18 S_e ne_e) hZ (hw _ (List.mem_of_getElem? (i := 241) rfl)) (hw _ (List.mem_of_getElem? (i := 86) rfl)) (by decide) (by decide)) q14a q14b q14c (g := (mkF m 22 #[.val (.ref a0), .val (.long ((0 : Int64) + q0)), .second, .val (.ref b_2), .val (.ref c0)] [(.ref b_2)])) rfl (by rw [hml]; rfl) (Steps.refl _) (argsL := []) (rest := []) (lenOf own_pd19 rfl) rfl (by show 2 * 0 + _ ≤ _; exact Nat.le_of_eq rfl) (hb hby d11_22) (fun _ _ => ⟨rfl, e13, (by decide : 1 + 0 ≤ _), (by decide : 4 + 0 ≤ _)⟩)
  dsimp only [Pt.U, Pt.locs, Pt.cells, Pt.slots] at X14 l14 y14 z14 st14 hQ14
  subst l14 y14 z14
  obtain ⟨rfl, N14q, Kc14, G14_0, G14_1, G14_2, G14_3⟩ := hQ14
  have N14 := Fr.app N13 N14q
  have K14 : Keep h0 T14.heap [] := (K4).trans Kc14 (allS (P := fun x => x ∈ ([] : List Addr) ∨ h0.size ≤ x) (Or.inr sz_b_2) (all0 (P := fun x => x ∈ ([] : List Addr) ∨ h0.size ≤ x)))
  refine OGo.of st14 ?_
  show OGo p e below _ (T14.setTop (mkF m 27 #[.val (.ref a0), .val (.long ((0 : Int64) + q0)), .second, .val (.ref b_2), .val (.ref c0)] [(.ref c1)]))
  have f19 : Exa Z T14.heap c1 "com/example/kept_inbox/keptinbox/UnreadConversation" := (((Ec1.keep Kc2).keep Kc4).keep Kc14)
  obtain ⟨T20, X20, e20, st20⟩ := castY X14 hx hZ hown (hw _ (List.mem_of_getElem? (i := 250) rfl)) rfl (Ins.self f19) (g := (mkF m 27 #[.val (.ref a0), .val (.long ((0 : Int64) + q0)), .second, .val (.ref b_2), .val (.ref c0)] [(.ref c1)])) rfl rfl (hb hby d11_27)
  refine OGo.by st20 ?_
  show OGo p e below _ (T20.setTop (mkF m 30 #[.val (.ref a0), .val (.long ((0 : Int64) + q0)), .second, .val (.ref b_2), .val (.ref c0)] [(.ref c1)]))
  refine OGo.by (fun _ k => XS.astore X20.here hx rfl (hb hby d11_30) rfl rfl (l' := #[.val (.ref a0), .val (.long ((0 : Int64) + q0)), .second, .val (.ref b_2), .val (.ref c1)]) rfl k) ?_
  show OGo p e below _ (T20.setTop (mkF m 32 #[.val (.ref a0), .val (.long ((0 : Int64) + q0)), .second, .val (.ref b_2), .val (.ref c1)] []))
  refine OGo.by (fun _ k => XS.lloadN X20.here hx rfl (hb hby d11_32) rfl k) ?_
  show OGo p e below _ (T20.setTop (mkF m 33 #[.val (.ref a0), .val (.long ((0 : Int64) + q0)), .second, .val (.ref b_2), .val (.ref c1)] [(.long ((0 : Int64) + q0))]))
  refine OGo.by (fun _ k => XS.aload X20.here hx rfl (hb hby d11_33) rfl rfl k) ?_
  show OGo p e below _ (T20.setTop (mkF m 35 #[.val (.ref a0), .val (.long ((0 : Int64) + q0)), .second, .val (.ref b_2), .val (.ref c1)] [(.ref c1), (.long ((0 : Int64) + q0))]))
  have f22 : Fld Z T14.heap c1 "com/example/kept_inbox/keptinbox/UnreadConversation" "waiting" "J" (.long q1) := (((Fc1.keep Kc2 nin0).keep Kc4 (ninS ne_c1_b_2 nin0)).keep Kc14 (ninS ne_c1_b_2 nin0))
  obtain ⟨cq21, kq21, q21a, q21b, q21c⟩ := isOf hZ e20 f19
  obtain ⟨_, _, ⟨T21, L21, k21, n21⟩, -, X21, ⟨Lc21, hQ21, l21, y21, z21⟩, st21⟩ := X20.virtualBack hx (y := (⟨"com/example/kept_inbox/keptinbox/UnreadConversation", "waiting", "()J"⟩ : MethodName)) (z := (⟨"com/example/kept_inbox/keptinbox/UnreadConversation", "waiting", "()J"⟩ : MethodName)) hown (mvT hZ (hw _ (List.mem_of_getElem? (i := 252) rfl))) (mvT hZ (hw _ (List.mem_of_getElem? (i := 253) rfl))) (notFace_of_selects (args := #[]) (mvT hZ (hw _ (List.mem_of_getElem? (i := 255) rfl)))) (mvT hZ (hw _ (List.mem_of_getElem? (i := 255) rfl))) (mvT hZ (hw _ (List.mem_of_getElem? (i := 254) rfl))) (by decide) (backOf (W := 2) (rm34 l Z av0 hw [] c1 q1 T14.heap n0 (Nat.le_trans Z0 K14.1) f22) hZ (hw _ (List.mem_of_getElem? (i := 256) rfl)) (hw _ (List.mem_of_getElem? (i := 120) rfl)) (by decide) (by decide)) q21a q21c (g := (mkF m 35 #[.val (.ref a0), .val (.long ((0 : Int64) + q0)), .second, .val (.ref b_2), .val (.ref c1)] [(.ref c1), (.long ((0 : Int64) + q0))])) rfl (by rw [hml]; rfl) (Steps.refl _) (argsL := []) (rest := [(.long ((0 : Int64) + q0))]) (lenOf own_pd20 rfl) rfl (by show 2 * 0 + _ ≤ _; exact Nat.le_of_eq rfl) (hb hby d11_35) (fun _ _ => ⟨rfl, e20, (by decide : 1 + 0 ≤ _), (by decide : 4 + 0 ≤ _)⟩)
  dsimp only [Pt.U, Pt.locs, Pt.cells, Pt.slots] at X21 l21 y21 z21 st21 hQ21
  subst l21 y21 z21
  obtain ⟨rfl, N21q, e21⟩ := hQ21
  have N21 := Fr.app N14 N21q
  refine OGo.of st21 ?_
  show OGo p e below _ (T21.setTop (mkF m 38 #[.val (.ref a0), .val (.long ((0 : Int64) + q0)), .second, .val (.ref b_2), .val (.ref c1)] [(.long q1), (.long ((0 : Int64) + q0))]))
  refine OGo.by (fun _ k => XS.ladd X21.here hx rfl (hb hby d11_38) rfl k) ?_
  show OGo p e below _ (T21.setTop (mkF m 39 #[.val (.ref a0), .val (.long ((0 : Int64) + q0)), .second, .val (.ref b_2), .val (.ref c1)] [(.long (((0 : Int64) + q0) + q1))]))
  refine OGo.by (fun _ k => XS.lstoreN X21.here hx rfl (hb hby d11_39) rfl (l' := #[.val (.ref a0), .val (.long (((0 : Int64) + q0) + q1)), .second, .val (.ref b_2), .val (.ref c1)]) rfl k) ?_
  show OGo p e below _ (T21.setTop (mkF m 40 #[.val (.ref a0), .val (.long (((0 : Int64) + q0) + q1)), .second, .val (.ref b_2), .val (.ref c1)] []))
  refine OGo.by (fun _ k => XS.goto X21.here hx rfl (pc0 := 40) (pc' := 12) rfl (hb hby d11_40) (by decide) (by decide) k) ?_
  show OGo p e below _ (T21.setTop (mkF m 12 #[.val (.ref a0), .val (.long (((0 : Int64) + q0) + q1)), .second, .val (.ref b_2), .val (.ref c1)] []))
  refine OGo.by (fun _ k => XS.aloadN X21.here hx rfl (hb hby d11_12) rfl rfl k) ?_
  show OGo p e below _ (T21.setTop (mkF m 13 #[.val (.ref a0), .val (.long (((0 : Int64) + q0) + q1)), .second, .val (.ref b_2), .val (.ref c1)] [(.ref b_2)]))
  obtain ⟨cq23, kq23, q23a, q23b, q23c⟩ := isOf hZ e21 G14_0
  obtain ⟨_, _, ⟨T23, L23, k23, n23⟩, -, X23, ⟨Lc23, hQ23, l23, y23, z23⟩, st23⟩ := X21.interfaceBack hx (xi := (⟨"java/util/Iterator", "hasNext", "()Z"⟩ : MethodName)) (y := (⟨"java/util/ImmutableCollections$ListItr", "hasNext", "()Z"⟩ : MethodName)) hown (mvT hZ (hw _ (List.mem_of_getElem? (i := 109) rfl))) (mvT hZ (hw _ (List.mem_of_getElem? (i := 110) rfl))) (mvT hZ (hw _ (List.mem_of_getElem? (i := 111) rfl))) (mvT hZ (hw _ (List.mem_of_getElem? (i := 112) rfl))) (mvT hZ (hw _ (List.mem_of_getElem? (i := 113) rfl))) (mvT hZ (hw _ (List.mem_of_getElem? (i := 114) rfl))) (mvT hZ (hw _ (List.mem_of_getElem? (i := 115) rfl))) (mvT hZ (hw _ (List.mem_of_getElem? (i := 116) rfl))) (by decide) (backOf (W := 0) (rm_hn2_2 l Z av0 hw [] b_2 T14.heap n0 (Nat.le_trans Z0 K14.1) G14_2 G14_3) hZ (hw _ (List.mem_of_getElem? (i := 117) rfl)) (hw _ (List.mem_of_getElem? (i := 86) rfl)) (by decide) (by decide)) q23a q23b q23c (g := (mkF m 13 #[.val (.ref a0), .val (.long (((0 : Int64) + q0) + q1)), .second, .val (.ref b_2), .val (.ref c1)] [(.ref b_2)])) rfl (by rw [hml]; rfl) (Steps.refl _) (argsL := []) (rest := []) (lenOf own_pd6 rfl) rfl (by show 2 * 0 + _ ≤ _; exact Nat.le_of_eq rfl) (hb hby d11_13) (fun _ _ => ⟨rfl, e21, (by decide : 1 + 0 ≤ _), (by decide : 4 + 0 ≤ _)⟩)
  dsimp only [Pt.U, Pt.locs, Pt.cells, Pt.slots] at X23 l23 y23 z23 st23 hQ23
  subst l23 y23 z23
  obtain ⟨rfl, N23q, e23⟩ := hQ23
  have N23 := Fr.app N21 N23q
  refine OGo.of st23 ?_
  show OGo p e below _ (T23.setTop (mkF m 18 #[.val (.ref a0), .val (.long (((0 : Int64) + q0) + q1)), .second, .val (.ref b_2), .val (.ref c1)] [(.int (0 : Int32))]))
  refine OGo.by (fun _ k => XS.ifYes X23.here hx rfl (pc0 := 18) (pc' := 43) rfl (hb hby d11_18) rfl ((if0 _ _).trans (teq (by decide : (0 : Int32) = (0 : Int32))).1) (by decide) (by decide) k) ?_
  show OGo p e below _ (T23.setTop (mkF m 43 #[.val (.ref a0), .val (.long (((0 : Int64) + q0) + q1)), .second, .val (.ref b_2), .val (.ref c1)] []))
  refine OGo.by (fun _ k => XS.lloadN X23.here hx rfl (hb hby d11_43) rfl k) ?_
  show OGo p e below _ (T23.setTop (mkF m 44 #[.val (.ref a0), .val (.long (((0 : Int64) + q0) + q1)), .second, .val (.ref b_2), .val (.ref c1)] [(.long (((0 : Int64) + q0) + q1))]))
  obtain ⟨fs, hr, hrun, hended, hW, hsame⟩ := X23.leave (v := some (.long (((0 : Int64) + q0) + q1))) (fun h => by rw [Bd.returns] at h; cases h)
  refine OGo.ret (retOut X23 hx Bd.returns rfl (Or.inr (Or.inl ⟨rfl, rfl, _, rfl⟩)) (hb hby d11_44) hr) hrun hended ⟨_, _, rfl, ?_, ⟨_, rfl⟩, hW, hsame.mono (by decide) (by decide)⟩
  show Q_rm_tot2 Z a0 li we c0 c1 q0 q1 h0 n0 _ T23.heap _
  rw [e23]
  exact ⟨rfl, N23, K14⟩
theorem ef_rm_siz3 (m : MethodId) (a0 : Addr) : entryFrame m #[(.ref a0)] 1 = mkF m 0 #[.val (.ref a0)] [] := by first | (simp [entryFrame, mkF, argsToLocals, Value.category]; done) | rfl
def Q_rm_siz3 (Z : State) (a0 : Addr) (t : Addr) (kt : ClassId) (c0 : Addr) (c1 : Addr) (c2 : Addr) (h0 : Heap) (n0 : Nat) (v : Option Value) (h : Heap) (L : List Loc) : Prop := v = some (.int (3 : Int32)) ∧ Fr n0 L ∧ h = h0
set_option maxRecDepth 65536 in
set_option maxHeartbeats 40000000 in
theorem rm_siz3 (l : Launch) (Z : State) (av0 : Array Value) (hw : ∀ d ∈ tables_1, d.before av0 Z = true) (ws : List Jvm.Cond) (a0 : Addr) (t : Addr) (kt : ClassId) (c0 : Addr) (c1 : Addr) (c2 : Addr) (h0 : Heap) (n0 : Nat) (Z0 : n0 ≤ h0.size) (l_0 : Exa Z h0 a0 "java/util/ImmutableCollections$ListN") (l_1 : Fld Z h0 a0 "java/util/ImmutableCollections$ListN" "elements" "[Ljava/lang/Object;" (.ref t)) (l_2 : Arv Z h0 t kt (.object "java/lang/Object") (3 : Int32) [(.ref c0), (.ref c1), (.ref c2)] .null) :
    MetFree l (⟨"java/util/ImmutableCollections$ListN", "size", "()I"⟩ : MethodName) (head1 (Jvm.Cond.code (⟨"java/util/ImmutableCollections$ListN", "size", "()I"⟩ : MethodName) jdk_45_method_3_code 1 (some .int) :: ws) ({ frames := 0, cells := 0, slots := 0, locals := 0 } : Room)) (fun a U => a = #[(.ref a0)] ∧ Z.Warmed39 U.vm ∧ U.heap = h0) (fun _ _ _ _ _ => True) (fun _ U o U' => ∃ v L, o = .returned v ∧ Q_rm_siz3 Z a0 t kt c0 c1 c2 h0 n0 v U'.heap L ∧ FrameEnd U o U' L ({ frames := 0, cells := 0, slots := 0, locals := 0 } : Room).cells ({ frames := 0, cells := 0, slots := 0, locals := 0 } : Room).slots) := by
  refine MetFree.of_bodySF (plainFor_of_name own_pn13) hisR ?_
  intro p e s m args below meth c s₁ Bd hml0 hP hK
  obtain ⟨rfl, hZ, hh⟩ := hP
  have hx := Bd.exec
  have hby := Bd.bytes
  have hml : c.maxLocals = 1 := hml0
  have hown : s.vm.findClass "java/util/ImmutableCollections$ListN" = some m.cls := findClass_of_methodNamed Bd.named
  have hnm := (name_of_methodNamed Bd.named Bd.method).1
  have X0 : Stand p l e ({ frames := 0, cells := 0, slots := 0, locals := 0 } : Room) s m #[(.ref a0)] below meth c s₁ [] 0 0 := Stand.of_body Bd
  have e0 : s₁.heap = h0 := by rw [← hh, Bd.state]; rfl
  have N0 := Fr.nil n0
  refine OGo.by (P := fun U' o => ∃ v L, o = .returned v ∧ Q_rm_siz3 Z a0 t kt c0 c1 c2 h0 n0 v U'.heap L ∧ FrameEnd s o U' L ({ frames := 0, cells := 0, slots := 0, locals := 0 } : Room).cells ({ frames := 0, cells := 0, slots := 0, locals := 0 } : Room).slots) (fun T_ k_ => castTop (ef_rm_siz3 m a0) k_) ?_
  show OGo p e below _ (s₁.setTop (mkF m 0 #[.val (.ref a0)] []))
  refine OGo.by (fun _ k => XS.aloadN X0.here hx rfl (hb hby d13_0) rfl rfl k) ?_
  show OGo p e below _ (s₁.setTop (mkF m 1 #[.val (.ref a0)] [(.ref a0)]))
  obtain ⟨T1, X1, e1, st1⟩ := getF X0 hx hZ hown (host := "") (Or.inl (hw _ (List.mem_of_getElem? (i := 94) rfl))) Via.refl e0 l_1 (g := (mkF m 1 #[.val (.ref a0)] [(.ref a0)])) rfl rfl (hb hby d13_1)
  refine OGo.by st1 ?_
  show OGo p e below _ (T1.setTop (mkF m 4 #[.val (.ref a0)] [(.ref t)]))
  obtain ⟨cl2, Ar2, q2, S2, M2, -, -⟩ := id l_2
  refine OGo.by (X1.arraylength hx (by rw [e1]; exact Ar2.1) (State.isArrayOf_alike hZ.alike Ar2.2.1) (g := (mkF m 4 #[.val (.ref a0)] [(.ref t)])) rfl rfl (hb hby d13_4)) ?_
  rw [len_of S2 M2]
  show OGo p e below _ (T1.setTop (mkF m 5 #[.val (.ref a0)] [(.int (3 : Int32))]))
  obtain ⟨fs, hr, hrun, hended, hW, hsame⟩ := X1.leave (v := some (.int (3 : Int32))) (fun h => by rw [Bd.returns] at h; cases h)
  refine OGo.ret (retI X1 hx Bd.returns (hb hby d13_5) hr) hrun hended ⟨_, _, rfl, ?_, ⟨_, rfl⟩, hW, hsame.mono (by decide) (by decide)⟩
  show Q_rm_siz3 Z a0 t kt c0 c1 c2 h0 n0 _ T1.heap _
  rw [e1]
  exact ⟨rfl, N0, rfl⟩
theorem ef_rm_itr3 (m : MethodId) (a0 : Addr) : entryFrame m #[(.ref a0)] 1 = mkF m 0 #[.val (.ref a0)] [] := by first | (simp [entryFrame, mkF, argsToLocals, Value.category]; done) | rfl
def Q_rm_itr3 (Z : State) (a0 : Addr) (t : Addr) (kt : ClassId) (c0 : Addr) (c1 : Addr) (c2 : Addr) (h0 : Heap) (n0 : Nat) (v : Option Value) (h : Heap) (L : List Loc) : Prop := ∃ b : Addr, v = some (.ref b) ∧ Fr n0 L ∧ Keep h0 h [] ∧ (h0.size ≤ b) ∧ (n0 ≤ b) ∧ (Exa Z h b "java/util/ImmutableCollections$ListItr") ∧ (Fld Z h b "java/util/ImmutableCollections$ListItr" "list" "Ljava/util/List;" (.ref a0)) ∧ (Fld Z h b "java/util/ImmutableCollections$ListItr" "size" "I" (.int (3 : Int32))) ∧ (Fld Z h b "java/util/ImmutableCollections$ListItr" "cursor" "I" (.int (0 : Int32)))
set_option maxRecDepth 65536 in
set_option maxHeartbeats 40000000 in
theorem rm_itr3 (l : Launch) (Z : State) (av0 : Array Value) (hw : ∀ d ∈ tables_1, d.before av0 Z = true) (ws : List Jvm.Cond) (a0 : Addr) (t : Addr) (kt : ClassId) (c0 : Addr) (c1 : Addr) (c2 : Addr) (h0 : Heap) (n0 : Nat) (Z0 : n0 ≤ h0.size) (l_0 : Exa Z h0 a0 "java/util/ImmutableCollections$ListN") (l_1 : Fld Z h0 a0 "java/util/ImmutableCollections$ListN" "elements" "[Ljava/lang/Object;" (.ref t)) (l_2 : Arv Z h0 t kt (.object "java/lang/Object") (3 : Int32) [(.ref c0), (.ref c1), (.ref c2)] .null) :
    MetFree l (⟨"java/util/ImmutableCollections$AbstractImmutableList", "iterator", "()Ljava/util/Iterator;"⟩ : MethodName) (head1 (Jvm.Cond.code (⟨"java/util/ImmutableCollections$AbstractImmutableList", "iterator", "()Ljava/util/Iterator;"⟩ : MethodName) jdk_46_method_10_code 1 (some (.object "java/util/Iterator")) :: ws) ({ frames := 2, cells := 1, slots := 4, locals := 27 } : Room)) (fun a U => a = #[(.ref a0)] ∧ Z.Warmed39 U.vm ∧ U.heap = h0) (fun _ _ _ _ _ => True) (fun _ U o U' => ∃ v L, o = .returned v ∧ Q_rm_itr3 Z a0 t kt c0 c1 c2 h0 n0 v U'.heap L ∧ FrameEnd U o U' L ({ frames := 2, cells := 1, slots := 4, locals := 27 } : Room).cells ({ frames := 2, cells := 1, slots := 4, locals := 27 } : Room).slots) := by
  refine MetFree.of_bodySF (plainFor_of_name own_pn12) hisR ?_
  intro p e s m args below meth c s₁ Bd hml0 hP hK
  obtain ⟨rfl, hZ, hh⟩ := hP
  have hx := Bd.exec
  have hby := Bd.bytes
  have hml : c.maxLocals = 1 := hml0
  have hown : s.vm.findClass "java/util/ImmutableCollections$AbstractImmutableList" = some m.cls := findClass_of_methodNamed Bd.named
  have hnm := (name_of_methodNamed Bd.named Bd.method).1
  have X0 : Stand p l e ({ frames := 2, cells := 1, slots := 4, locals := 27 } : Room) s m #[(.ref a0)] below meth c s₁ [] 0 0 := Stand.of_body Bd
  have e0 : s₁.heap = h0 := by rw [← hh, Bd.state]; rfl
  have N0 := Fr.nil n0
  refine OGo.by (P := fun U' o => ∃ v L, o = .returned v ∧ Q_rm_itr3 Z a0 t kt c0 c1 c2 h0 n0 v U'.heap L ∧ FrameEnd s o U' L ({ frames := 2, cells := 1, slots := 4, locals := 27 } : Room).cells ({ frames := 2, cells := 1, slots := 4, locals := 27 } : Room).slots) (fun T_ k_ => castTop (ef_rm_itr3 m a0) k_) ?_
  show OGo p e below _ (s₁.setTop (mkF m 0 #[.val (.ref a0)] []))
  obtain ⟨T1, h1, X1, e1, E1, A1, D1, U1, st1⟩ := newO X0 hx hZ hown (hw _ (List.mem_of_getElem? (i := 84) rfl)) (hw _ (List.mem_of_getElem? (i := 85) rfl)) (hw _ (List.mem_of_getElem? (i := 86) rfl)) e0 (g := (mkF m 0 #[.val (.ref a0)] [])) rfl (hb hby d12_0) (by decide) (by decide)
  obtain ⟨b1, g1⟩ : ∃ z, z = h0.size := ⟨_, rfl⟩
  rw [← g1] at A1 D1 U1 st1
  have ne_a0_b1 : a0 ≠ b1 := Nat.ne_of_lt (Nat.lt_of_lt_of_le l_0.lt (Nat.le_of_eq g1.symm))
  have ne_t_b1 : t ≠ b1 := Nat.ne_of_lt (Nat.lt_of_lt_of_le l_2.lt (Nat.le_of_eq g1.symm))
  have g_b1 : n0 ≤ b1 := Nat.le_trans Z0 (Nat.le_of_eq g1.symm)
  have sz_b1 : h0.size ≤ b1 := Nat.le_trans (Nat.le_refl _) (Nat.le_of_eq g1.symm)
  refine OGo.by st1 ?_
  have K1 : Keep h0 h1 [] := ((Keep.refl h0 [])).ext E1
  have F1_list : Fld Z h1 b1 "java/util/ImmutableCollections$ListItr" "list" "Ljava/util/List;" .null := D1 (Or.inr (hw _ (List.mem_of_getElem? (i := 102) rfl))) (ty := (.object "java/util/List")) (by decide)
  have F1_size : Fld Z h1 b1 "java/util/ImmutableCollections$ListItr" "size" "I" (.int (0 : Int32)) := D1 (Or.inr (hw _ (List.mem_of_getElem? (i := 104) rfl))) (ty := .int) (by decide)
  have F1_cursor : Fld Z h1 b1 "java/util/ImmutableCollections$ListItr" "cursor" "I" (.int (0 : Int32)) := D1 (Or.inl (hw _ (List.mem_of_getElem? (i := 106) rfl))) (ty := .int) (by decide)
  have F1_isListIterator : Fld Z h1 b1 "java/util/ImmutableCollections$ListItr" "isListIterator" "Z" (.int (0 : Int32)) := D1 (Or.inr (hw _ (List.mem_of_getElem? (i := 108) rfl))) (ty := .boolean) (by decide)
  show OGo p e below _ (T1.setTop (mkF m 3 #[.val (.ref a0)] [(.ref b1)]))
  refine OGo.by (fun _ k => XS.dup X1.here hx rfl (hb hby d12_3) rfl rfl k) ?_
  show OGo p e below _ (T1.setTop (mkF m 4 #[.val (.ref a0)] [(.ref b1), (.ref b1)]))
  refine OGo.by (fun _ k => XS.aloadN X1.here hx rfl (hb hby d12_4) rfl rfl k) ?_
  show OGo p e below _ (T1.setTop (mkF m 5 #[.val (.ref a0)] [(.ref a0), (.ref b1), (.ref b1)]))
  refine OGo.by (fun _ k => XS.aloadN X1.here hx rfl (hb hby d12_5) rfl rfl k) ?_
  show OGo p e below _ (T1.setTop (mkF m 6 #[.val (.ref a0)] [(.ref a0), (.ref a0), (.ref b1), (.ref b1)]))
  have f3 : Exa Z h1 a0 "java/util/ImmutableCollections$ListN" := (l_0.ext E1)
  have f4 : Fld Z h1 a0 "java/util/ImmutableCollections$ListN" "elements" "[Ljava/lang/Object;" (.ref t) := (l_1.ext E1)
  have f5 : Arv Z h1 t kt (.object "java/lang/Object") (3 : Int32) [(.ref c0), (.ref c1), (.ref c2)] .null := (l_2.ext E1)
  obtain ⟨cq2, kq2, q2a, q2b, q2c⟩ := isOf hZ e1 f3
  obtain ⟨_, _, ⟨T2, L2, k2, n2⟩, -, X2, ⟨Lc2, hQ2, l2, y2, z2⟩, st2⟩ := X1.virtualBackUp hx (owner := "java/util/AbstractCollection") (x := (⟨"java/util/ImmutableCollections$AbstractImmutableList", "size", "()I"⟩ : MethodName)) (y := (⟨"java/util/ImmutableCollections$ListN", "size", "()I"⟩ : MethodName)) hown (mvT hZ (hw _ (List.mem_of_getElem? (i := 87) rfl))) (mvT hZ (hw _ (List.mem_of_getElem? (i := 88) rfl))) (mvT hZ (hw _ (List.mem_of_getElem? (i := 89) rfl))) (by decide) (mvT hZ (hw _ (List.mem_of_getElem? (i := 90) rfl))) (mvT hZ (hw _ (List.mem_of_getElem? (i := 91) rfl))) (backOf (W := 3) (rm_siz3 l Z av0 hw [] a0 t kt c0 c1 c2 h1 n0 (Nat.le_trans Z0 K1.1) f3 f4 f5) hZ (hw _ (List.mem_of_getElem? (i := 93) rfl)) (hw _ (List.mem_of_getElem? (i := 92) rfl)) (by decide) (by decide)) q2a q2c (g := (mkF m 6 #[.val (.ref a0)] [(.ref a0), (.ref a0), (.ref b1), (.ref b1)])) rfl (by rw [hml]; rfl) (Steps.refl _) (argsL := []) (rest := [(.ref a0), (.ref b1), (.ref b1)]) (lenOf own_pd15 rfl) rfl (by show 2 * 0 + _ ≤ _; exact Nat.le_of_eq rfl) (hb hby d12_6) (fun _ _ => ⟨rfl, e1, (by decide : 1 + 0 ≤ _), (by decide : 4 + 0 ≤ _)⟩)
  dsimp only [Pt.U, Pt.locs, Pt.cells, Pt.slots] at X2 l2 y2 z2 st2 hQ2
  subst l2 y2 z2
  obtain ⟨rfl, N2q, e2⟩ := hQ2
  have N2 := Fr.app N0 N2q
  refine OGo.of st2 ?_
  show OGo p e below _ (T2.setTop (mkF m 9 #[.val (.ref a0)] [(.int (3 : Int32)), (.ref a0), (.ref b1), (.ref b1)]))
  obtain ⟨_, _, ⟨T6, L6, k6, n6⟩, -, X6, ⟨Lc6, hQ6, l6, y6, z6⟩, st6⟩ := X2.specialBack hx (y := (⟨"java/util/ImmutableCollections$ListItr", "<init>", "(Ljava/util/List;I)V"⟩ : MethodName)) rfl hown (mvT hZ (hw _ (List.mem_of_getElem? (i := 96) rfl))) (mvT hZ (hw _ (List.mem_of_getElem? (i := 97) rfl))) (mvT hZ (hw _ (List.mem_of_getElem? (i := 99) rfl))) (by decide) (backOf (W := 1) (rm14 l Z av0 hw [] b1 a0 (3 : Int32) h1 n0 (Nat.le_trans Z0 K1.1) A1 F1_list F1_size F1_cursor F1_isListIterator g_b1) hZ (hw _ (List.mem_of_getElem? (i := 99) rfl)) (hw _ (List.mem_of_getElem? (i := 86) rfl)) (by decide) (by decide)) (g := (mkF m 9 #[.val (.ref a0)] [(.int (3 : Int32)), (.ref a0), (.ref b1), (.ref b1)])) rfl (by rw [hml]; rfl) (Steps.refl _) (a := b1) (argsL := [(.ref a0), (.int (3 : Int32))]) (rest := [(.ref b1)]) (lenOf own_pd16 rfl) rfl (by show 2 * 0 + _ ≤ _; exact Nat.le_of_eq rfl) (hb hby d12_9) (fun _ _ => ⟨rfl, e2, (by decide : 1 + 0 ≤ _), (by decide : 4 + 0 ≤ _)⟩)
  dsimp only [Pt.U, Pt.locs, Pt.cells, Pt.slots] at X6 l6 y6 z6 st6 hQ6
  subst l6 y6 z6
  obtain ⟨rfl, N6q, Kc6, G6_0, G6_1, G6_2, G6_3⟩ := hQ6
  have N6 := Fr.app N2 N6q
  have K6 : Keep h0 T6.heap [] := (K1).trans Kc6 (allS (P := fun x => x ∈ ([] : List Addr) ∨ h0.size ≤ x) (Or.inr sz_b1) (all0 (P := fun x => x ∈ ([] : List Addr) ∨ h0.size ≤ x)))
  refine OGo.of st6 ?_
  show OGo p e below _ (T6.setTop (mkF m 12 #[.val (.ref a0)] [(.ref b1)]))
  obtain ⟨fs, hr, hrun, hended, hW, hsame⟩ := X6.leave (v := some (.ref b1)) (fun h => by rw [Bd.returns] at h; cases h)
  refine OGo.ret (retOut X6 hx Bd.returns rfl (Or.inr (Or.inr (Or.inr (Or.inr ⟨rfl, rfl, rfl⟩)))) (hb hby d12_12) hr) hrun hended ⟨_, _, rfl, ?_, ⟨_, rfl⟩, hW, hsame.mono (by decide) (by decide)⟩
  show Q_rm_itr3 Z a0 t kt c0 c1 c2 h0 n0 _ T6.heap _
  exact ⟨b1, rfl, N6, K6, sz_b1, g_b1, G6_0, G6_1, G6_2, G6_3⟩
theorem ef_rm_hn3_0 (m : MethodId) (a0 : Addr) : entryFrame m #[(.ref a0)] 1 = mkF m 0 #[.val (.ref a0)] [] := by first | (simp [entryFrame, mkF, argsToLocals, Value.category]; done) | rfl
def Q_rm_hn3_0 (Z : State) (a0 : Addr) (h0 : Heap) (n0 : Nat) (v : Option Value) (h : Heap) (L : List Loc) : Prop := v = some (.int (1 : Int32)) ∧ Fr n0 L ∧ h = h0
set_option maxRecDepth 65536 in
set_option maxHeartbeats 40000000 in
theorem rm_hn3_0 (l : Launch) (Z : State) (av0 : Array Value) (hw : ∀ d ∈ tables_1, d.before av0 Z = true) (ws : List Jvm.Cond) (a0 : Addr) (h0 : Heap) (n0 : Nat) (Z0 : n0 ≤ h0.size) (F1 : Fld Z h0 a0 "java/util/ImmutableCollections$ListItr" "size" "I" (.int (3 : Int32))) (F2 : Fld Z h0 a0 "java/util/ImmutableCollections$ListItr" "cursor" "I" (.int (0 : Int32))) :
    MetFree l (⟨"java/util/ImmutableCollections$ListItr", "hasNext", "()Z"⟩ : MethodName) (head1 (Jvm.Cond.code (⟨"java/util/ImmutableCollections$ListItr", "hasNext", "()Z"⟩ : MethodName) jdk_53_method_3_code 1 (some .boolean) :: ws) ({ frames := 0, cells := 0, slots := 0, locals := 0 } : Room)) (fun a U => a = #[(.ref a0)] ∧ Z.Warmed39 U.vm ∧ U.heap = h0) (fun _ _ _ _ _ => True) (fun _ U o U' => ∃ v L, o = .returned v ∧ Q_rm_hn3_0 Z a0 h0 n0 v U'.heap L ∧ FrameEnd U o U' L ({ frames := 0, cells := 0, slots := 0, locals := 0 } : Room).cells ({ frames := 0, cells := 0, slots := 0, locals := 0 } : Room).slots) := by
  refine MetFree.of_bodySF (plainFor_of_name own_pn15) hisR ?_
  intro p e s m args below meth c s₁ Bd hml0 hP hK
  obtain ⟨rfl, hZ, hh⟩ := hP
  have hx := Bd.exec
  have hby := Bd.bytes
  have hml : c.maxLocals = 1 := hml0
  have hown : s.vm.findClass "java/util/ImmutableCollections$ListItr" = some m.cls := findClass_of_methodNamed Bd.named
  have hnm := (name_of_methodNamed Bd.named Bd.method).1
  have X0 : Stand p l e ({ frames := 0, cells := 0, slots := 0, locals := 0 } : Room) s m #[(.ref a0)] below meth c s₁ [] 0 0 := Stand.of_body Bd
  have e0 : s₁.heap = h0 := by rw [← hh, Bd.state]; rfl
  have N0 := Fr.nil n0
  refine OGo.by (P := fun U' o => ∃ v L, o = .returned v ∧ Q_rm_hn3_0 Z a0 h0 n0 v U'.heap L ∧ FrameEnd s o U' L ({ frames := 0, cells := 0, slots := 0, locals := 0 } : Room).cells ({ frames := 0, cells := 0, slots := 0, locals := 0 } : Room).slots) (fun T_ k_ => castTop (ef_rm_hn3_0 m a0) k_) ?_
  show OGo p e below _ (s₁.setTop (mkF m 0 #[.val (.ref a0)] []))
  refine OGo.by (fun _ k => XS.aloadN X0.here hx rfl (hb hby d15_0) rfl rfl k) ?_
  show OGo p e below _ (s₁.setTop (mkF m 1 #[.val (.ref a0)] [(.ref a0)]))
  obtain ⟨T1, X1, e1, st1⟩ := getF X0 hx hZ hown (host := "") (Or.inl (hw _ (List.mem_of_getElem? (i := 105) rfl))) Via.refl e0 F2 (g := (mkF m 1 #[.val (.ref a0)] [(.ref a0)])) rfl rfl (hb hby d15_1)
  refine OGo.by st1 ?_
  show OGo p e below _ (T1.setTop (mkF m 4 #[.val (.ref a0)] [(.int (0 : Int32))]))
  refine OGo.by (fun _ k => XS.aloadN X1.here hx rfl (hb hby d15_4) rfl rfl k) ?_
  show OGo p e below _ (T1.setTop (mkF m 5 #[.val (.ref a0)] [(.ref a0), (.int (0 : Int32))]))
  obtain ⟨T2, X2, e2, st2⟩ := getF X1 hx hZ hown (host := "") (Or.inl (hw _ (List.mem_of_getElem? (i := 103) rfl))) Via.refl e1 F1 (g := (mkF m 5 #[.val (.ref a0)] [(.ref a0), (.int (0 : Int32))])) rfl rfl (hb hby d15_5)
  refine OGo.by st2 ?_
  show OGo p e below _ (T2.setTop (mkF m 8 #[.val (.ref a0)] [(.int (3 : Int32)), (.int (0 : Int32))]))
  refine OGo.by (fun _ k => XS.icmpNo X2.here hx rfl (hb hby d15_8) rfl (feq (by decide : ¬ ((0 : Int32) = (3 : Int32)))).1 k) ?_
  show OGo p e below _ (T2.setTop (mkF m 11 #[.val (.ref a0)] []))
  refine OGo.by (fun _ k => XS.iconst X2.here hx rfl (hb hby d15_11) k) ?_
  show OGo p e below _ (T2.setTop (mkF m 12 #[.val (.ref a0)] [(.int (1 : Int32))]))
  refine OGo.by (fun _ k => XS.goto X2.here hx rfl (pc0 := 12) (pc' := 16) rfl (hb hby d15_12) (by decide) (by decide) k) ?_
  show OGo p e below _ (T2.setTop (mkF m 16 #[.val (.ref a0)] [(.int (1 : Int32))]))
  obtain ⟨fs, hr, hrun, hended, hW, hsame⟩ := X2.leave (v := some (.int (1 : Int32))) (fun h => by rw [Bd.returns] at h; cases h)
  refine OGo.ret (retN X2 hx (t := .boolean) Bd.returns (by simp) (hb hby d15_16) hr) hrun hended ⟨_, _, rfl, ?_, ⟨_, rfl⟩, hW, hsame.mono (by decide) (by decide)⟩
  show Q_rm_hn3_0 Z a0 h0 n0 _ T2.heap _
  rw [e2]
  exact ⟨rfl, N0, rfl⟩
theorem d33_0 : decode jdk_45_method_4_code 0 = .ok (.aload_n 0, 1) := by decide +kernel
theorem d33_1 : decode jdk_45_method_4_code 1 = .ok (.getfield 7, 3) := by decide +kernel
theorem d33_4 : decode jdk_45_method_4_code 4 = .ok (.iload_n 1, 1) := by decide +kernel
theorem d33_5 : decode jdk_45_method_4_code 5 = .ok (.aaload, 1) := by decide +kernel
theorem d33_6 : decode jdk_45_method_4_code 6 = .ok (.areturn, 1) := by decide +kernel
theorem own_pn33 : plainName "java/util/ImmutableCollections$ListN" = true := by first | (simp [plainName, overriddenIn]; done) | decide +kernel
theorem ef_rm_get3_0 (m : MethodId) (a0 : Addr) (t : Addr) (kt : ClassId) (c0 : Addr) (c1 : Addr) (c2 : Addr) : entryFrame m #[(.ref a0), (.int (0 : Int32))] 2 = mkF m 0 #[.val (.ref a0), .val (.int (0 : Int32))] [] := by first | (simp [entryFrame, mkF, argsToLocals, Value.category]; done) | rfl
def Q_rm_get3_0 (Z : State) (a0 : Addr) (t : Addr) (kt : ClassId) (c0 : Addr) (c1 : Addr) (c2 : Addr) (h0 : Heap) (n0 : Nat) (v : Option Value) (h : Heap) (L : List Loc) : Prop := v = some (.ref c0) ∧ Fr n0 L ∧ h = h0
set_option maxRecDepth 65536 in
set_option maxHeartbeats 40000000 in
theorem rm_get3_0 (l : Launch) (Z : State) (av0 : Array Value) (hw : ∀ d ∈ tables_1, d.before av0 Z = true) (ws : List Jvm.Cond) (a0 : Addr) (t : Addr) (kt : ClassId) (c0 : Addr) (c1 : Addr) (c2 : Addr) (h0 : Heap) (n0 : Nat) (Z0 : n0 ≤ h0.size) (l_0 : Exa Z h0 a0 "java/util/ImmutableCollections$ListN") (l_1 : Fld Z h0 a0 "java/util/ImmutableCollections$ListN" "elements" "[Ljava/lang/Object;" (.ref t)) (l_2 : Arv Z h0 t kt (.object "java/lang/Object") (3 : Int32) [(.ref c0), (.ref c1), (.ref c2)] .null) :
    MetFree l (⟨"java/util/ImmutableCollections$ListN", "get", "(I)Ljava/lang/Object;"⟩ : MethodName) (head1 (Jvm.Cond.code (⟨"java/util/ImmutableCollections$ListN", "get", "(I)Ljava/lang/Object;"⟩ : MethodName) jdk_45_method_4_code 2 (some (.object "java/lang/Object")) :: ws) ({ frames := 0, cells := 0, slots := 0, locals := 0 } : Room)) (fun a U => a = #[(.ref a0), (.int (0 : Int32))] ∧ Z.Warmed39 U.vm ∧ U.heap = h0) (fun _ _ _ _ _ => True) (fun _ U o U' => ∃ v L, o = .returned v ∧ Q_rm_get3_0 Z a0 t kt c0 c1 c2 h0 n0 v U'.heap L ∧ FrameEnd U o U' L ({ frames := 0, cells := 0, slots := 0, locals := 0 } : Room).cells ({ frames := 0, cells := 0, slots := 0, locals := 0 } : Room).slots) := by
  refine MetFree.of_bodySF (plainFor_of_name own_pn33) hisR ?_
  intro p e s m args below meth c s₁ Bd hml0 hP hK
  obtain ⟨rfl, hZ, hh⟩ := hP
  have hx := Bd.exec
  have hby := Bd.bytes
  have hml : c.maxLocals = 2 := hml0
  have hown : s.vm.findClass "java/util/ImmutableCollections$ListN" = some m.cls := findClass_of_methodNamed Bd.named
  have hnm := (name_of_methodNamed Bd.named Bd.method).1
  have X0 : Stand p l e ({ frames := 0, cells := 0, slots := 0, locals := 0 } : Room) s m #[(.ref a0), (.int (0 : Int32))] below meth c s₁ [] 0 0 := Stand.of_body Bd
  have e0 : s₁.heap = h0 := by rw [← hh, Bd.state]; rfl
  have N0 := Fr.nil n0
  refine OGo.by (P := fun U' o => ∃ v L, o = .returned v ∧ Q_rm_get3_0 Z a0 t kt c0 c1 c2 h0 n0 v U'.heap L ∧ FrameEnd s o U' L ({ frames := 0, cells := 0, slots := 0, locals := 0 } : Room).cells ({ frames := 0, cells := 0, slots := 0, locals := 0 } : Room).slots) (fun T_ k_ => castTop (ef_rm_get3_0 m a0 t kt c0 c1 c2) k_) ?_
  show OGo p e below _ (s₁.setTop (mkF m 0 #[.val (.ref a0), .val (.int (0 : Int32))] []))
  refine OGo.by (fun _ k => XS.aloadN X0.here hx rfl (hb hby d33_0) rfl rfl k) ?_
  show OGo p e below _ (s₁.setTop (mkF m 1 #[.val (.ref a0), .val (.int (0 : Int32))] [(.ref a0)]))
  obtain ⟨T1, X1, e1, st1⟩ := getF X0 hx hZ hown (host := "") (Or.inl (hw _ (List.mem_of_getElem? (i := 94) rfl))) Via.refl e0 l_1 (g := (mkF m 1 #[.val (.ref a0), .val (.int (0 : Int32))] [(.ref a0)])) rfl rfl (hb hby d33_1)
  refine OGo.by st1 ?_
  show OGo p e below _ (T1.setTop (mkF m 4 #[.val (.ref a0), .val (.int (0 : Int32))] [(.ref t)]))
  refine OGo.by (fun _ k => XS.iloadN X1.here hx rfl (hb hby d33_4) rfl k) ?_
  show OGo p e below _ (T1.setTop (mkF m 5 #[.val (.ref a0), .val (.int (0 : Int32))] [(.int (0 : Int32)), (.ref t)]))
  obtain ⟨cl2, Ar2, q2, S2, M2, Hs2, G2⟩ := id l_2
  have hin2 := inb_of (j := (0 : Int32)) S2 ⟨(by decide), (by decide)⟩
  refine OGo.by (X1.aaload hx (j := (0 : Int32)) (v := (.ref c0)) (by rw [e1]; exact Ar2.1) (State.isArrayOf_alike hZ.alike Ar2.2.1) rfl Ar2.2.2 hin2 (Has.at Hs2 hin2 rfl) (g := (mkF m 5 #[.val (.ref a0), .val (.int (0 : Int32))] [(.int (0 : Int32)), (.ref t)])) rfl rfl (hb hby d33_5)) ?_
  show OGo p e below _ (T1.setTop (mkF m 6 #[.val (.ref a0), .val (.int (0 : Int32))] [(.ref c0)]))
  obtain ⟨fs, hr, hrun, hended, hW, hsame⟩ := X1.leave (v := some (.ref c0)) (fun h => by rw [Bd.returns] at h; cases h)
  refine OGo.ret (retOut X1 hx Bd.returns rfl (Or.inr (Or.inr (Or.inr (Or.inr ⟨rfl, rfl, rfl⟩)))) (hb hby d33_6) hr) hrun hended ⟨_, _, rfl, ?_, ⟨_, rfl⟩, hW, hsame.mono (by decide) (by decide)⟩
  show Q_rm_get3_0 Z a0 t kt c0 c1 c2 h0 n0 _ T1.heap _
  rw [e1]
  exact ⟨rfl, N0, rfl⟩
theorem ef_rm_nx3_0 (m : MethodId) (a0 : Addr) : entryFrame m #[(.ref a0)] 3 = mkF m 0 #[.val (.ref a0), .unset, .unset] [] := by first | (simp [entryFrame, mkF, argsToLocals, Value.category]; done) | rfl
def Q_rm_nx3_0 (Z : State) (a0 : Addr) (li : Addr) (t : Addr) (kt : ClassId) (c0 : Addr) (c1 : Addr) (c2 : Addr) (h0 : Heap) (n0 : Nat) (v : Option Value) (h : Heap) (L : List Loc) : Prop := v = some (.ref c0) ∧ Fr n0 L ∧ Keep h0 h [a0] ∧ (Exa Z h a0 "java/util/ImmutableCollections$ListItr") ∧ (Fld Z h a0 "java/util/ImmutableCollections$ListItr" "list" "Ljava/util/List;" (.ref li)) ∧ (Fld Z h a0 "java/util/ImmutableCollections$ListItr" "size" "I" (.int (3 : Int32))) ∧ (Fld Z h a0 "java/util/ImmutableCollections$ListItr" "cursor" "I" (.int (1 : Int32)))
set_option maxRecDepth 65536 in
set_option maxHeartbeats 40000000 in
theorem rm_nx3_0 (l : Launch) (Z : State) (av0 : Array Value) (hw : ∀ d ∈ tables_1, d.before av0 Z = true) (ws : List Jvm.Cond) (a0 : Addr) (li : Addr) (t : Addr) (kt : ClassId) (c0 : Addr) (c1 : Addr) (c2 : Addr) (h0 : Heap) (n0 : Nat) (Z0 : n0 ≤ h0.size) (E0 : Exa Z h0 a0 "java/util/ImmutableCollections$ListItr") (F0 : Fld Z h0 a0 "java/util/ImmutableCollections$ListItr" "list" "Ljava/util/List;" (.ref li)) (F1 : Fld Z h0 a0 "java/util/ImmutableCollections$ListItr" "size" "I" (.int (3 : Int32))) (F2 : Fld Z h0 a0 "java/util/ImmutableCollections$ListItr" "cursor" "I" (.int (0 : Int32))) (g_a0 : n0 ≤ a0) (l_0 : Exa Z h0 li "java/util/ImmutableCollections$ListN") (l_1 : Fld Z h0 li "java/util/ImmutableCollections$ListN" "elements" "[Ljava/lang/Object;" (.ref t)) (l_2 : Arv Z h0 t kt (.object "java/lang/Object") (3 : Int32) [(.ref c0), (.ref c1), (.ref c2)] .null) :
    MetFree l (⟨"java/util/ImmutableCollections$ListItr", "next", "()Ljava/lang/Object;"⟩ : MethodName) (head1 (Jvm.Cond.codeWith (⟨"java/util/ImmutableCollections$ListItr", "next", "()Ljava/lang/Object;"⟩ : MethodName) jdk_53_method_4_code 3 (some (.object "java/lang/Object")) [(0, 24, 25, 30)] :: ws) ({ frames := 1, cells := 0, slots := 0, locals := 13 } : Room)) (fun a U => a = #[(.ref a0)] ∧ Z.Warmed39 U.vm ∧ U.heap = h0) (fun _ _ _ _ _ => True) (fun _ U o U' => ∃ v L, o = .returned v ∧ Q_rm_nx3_0 Z a0 li t kt c0 c1 c2 h0 n0 v U'.heap L ∧ FrameEnd U o U' L ({ frames := 1, cells := 0, slots := 0, locals := 13 } : Room).cells ({ frames := 1, cells := 0, slots := 0, locals := 13 } : Room).slots) := by
  refine MetFree.of_bodySF (plainFor_of_name own_pn32) hisWith ?_
  intro p e s m args below meth c s₁ Bd hml0 hP hK
  obtain ⟨rfl, hZ, hh⟩ := hP
  have hx := Bd.exec
  have hby := Bd.bytes
  have hml : c.maxLocals = 3 := hml0
  have hown : s.vm.findClass "java/util/ImmutableCollections$ListItr" = some m.cls := findClass_of_methodNamed Bd.named
  have hnm := (name_of_methodNamed Bd.named Bd.method).1
  have X0 : Stand p l e ({ frames := 1, cells := 0, slots := 0, locals := 13 } : Room) s m #[(.ref a0)] below meth c s₁ [] 0 0 := Stand.of_body Bd
  have e0 : s₁.heap = h0 := by rw [← hh, Bd.state]; rfl
  have N0 := Fr.nil n0
  refine OGo.by (P := fun U' o => ∃ v L, o = .returned v ∧ Q_rm_nx3_0 Z a0 li t kt c0 c1 c2 h0 n0 v U'.heap L ∧ FrameEnd s o U' L ({ frames := 1, cells := 0, slots := 0, locals := 13 } : Room).cells ({ frames := 1, cells := 0, slots := 0, locals := 13 } : Room).slots) (fun T_ k_ => castTop (ef_rm_nx3_0 m a0) k_) ?_
  show OGo p e below _ (s₁.setTop (mkF m 0 #[.val (.ref a0), .unset, .unset] []))
  refine OGo.by (fun _ k => XS.aloadN X0.here hx rfl (hb hby d32_0) rfl rfl k) ?_
  show OGo p e below _ (s₁.setTop (mkF m 1 #[.val (.ref a0), .unset, .unset] [(.ref a0)]))
  obtain ⟨T1, X1, e1, st1⟩ := getF X0 hx hZ hown (host := "") (Or.inl (hw _ (List.mem_of_getElem? (i := 105) rfl))) Via.refl e0 F2 (g := (mkF m 1 #[.val (.ref a0), .unset, .unset] [(.ref a0)])) rfl rfl (hb hby d32_1)
  refine OGo.by st1 ?_
  show OGo p e below _ (T1.setTop (mkF m 4 #[.val (.ref a0), .unset, .unset] [(.int (0 : Int32))]))
  refine OGo.by (fun _ k => XS.istoreN X1.here hx rfl (hb hby d32_4) rfl (l' := #[.val (.ref a0), .val (.int (0 : Int32)), .unset]) rfl k) ?_
  show OGo p e below _ (T1.setTop (mkF m 5 #[.val (.ref a0), .val (.int (0 : Int32)), .unset] []))
  refine OGo.by (fun _ k => XS.aloadN X1.here hx rfl (hb hby d32_5) rfl rfl k) ?_
  show OGo p e below _ (T1.setTop (mkF m 6 #[.val (.ref a0), .val (.int (0 : Int32)), .unset] [(.ref a0)]))
  obtain ⟨T2, X2, e2, st2⟩ := getF X1 hx hZ hown (host := "") (Or.inl (hw _ (List.mem_of_getElem? (i := 101) rfl))) Via.refl e1 F0 (g := (mkF m 6 #[.val (.ref a0), .val (.int (0 : Int32)), .unset] [(.ref a0)])) rfl rfl (hb hby d32_6)
  refine OGo.by st2 ?_
  show OGo p e below _ (T2.setTop (mkF m 9 #[.val (.ref a0), .val (.int (0 : Int32)), .unset] [(.ref li)]))
  refine OGo.by (fun _ k => XS.iloadN X2.here hx rfl (hb hby d32_9) rfl k) ?_
  show OGo p e below _ (T2.setTop (mkF m 10 #[.val (.ref a0), .val (.int (0 : Int32)), .unset] [(.int (0 : Int32)), (.ref li)]))
  obtain ⟨cq3, kq3, q3a, q3b, q3c⟩ := isOf hZ e2 l_0
  obtain ⟨_, _, ⟨T3, L3, k3, n3⟩, -, X3, ⟨Lc3, hQ3, l3, y3, z3⟩, st3⟩ := X2.interfaceBack hx (xi := (⟨"java/util/List", "get", "(I)Ljava/lang/Object;"⟩ : MethodName)) (y := (⟨"java/util/ImmutableCollections$ListN", "get", "(I)Ljava/lang/Object;"⟩ : MethodName)) hown (mvT hZ (hw _ (List.mem_of_getElem? (i := 242) rfl))) (mvT hZ (hw _ (List.mem_of_getElem? (i := 243) rfl))) (mvT hZ (hw _ (List.mem_of_getElem? (i := 244) rfl))) (mvT hZ (hw _ (List.mem_of_getElem? (i := 245) rfl))) (mvT hZ (hw _ (List.mem_of_getElem? (i := 246) rfl))) (mvT hZ (hw _ (List.mem_of_getElem? (i := 247) rfl))) (mvT hZ (hw _ (List.mem_of_getElem? (i := 248) rfl))) (mvT hZ (hw _ (List.mem_of_getElem? (i := 81) rfl))) (by decide) (backOf (W := 0) (rm_get3_0 l Z av0 hw [] li t kt c0 c1 c2 h0 n0 Z0 l_0 l_1 l_2) hZ (hw _ (List.mem_of_getElem? (i := 249) rfl)) (hw _ (List.mem_of_getElem? (i := 92) rfl)) (by decide) (by decide)) q3a q3b q3c (g := (mkF m 10 #[.val (.ref a0), .val (.int (0 : Int32)), .unset] [(.int (0 : Int32)), (.ref li)])) rfl (by rw [hml]; rfl) (Steps.refl _) (argsL := [(.int (0 : Int32))]) (rest := []) (lenOf own_pd18 rfl) rfl (by show 2 * 0 + _ ≤ _; exact Nat.le_of_eq rfl) (hb hby d32_10) (fun _ _ => ⟨rfl, e2, (by decide : 0 + 0 ≤ _), (by decide : 0 + 0 ≤ _)⟩)
  dsimp only [Pt.U, Pt.locs, Pt.cells, Pt.slots] at X3 l3 y3 z3 st3 hQ3
  subst l3 y3 z3
  obtain ⟨rfl, N3q, e3⟩ := hQ3
  have N3 := Fr.app N0 N3q
  refine OGo.of st3 ?_
  show OGo p e below _ (T3.setTop (mkF m 15 #[.val (.ref a0), .val (.int (0 : Int32)), .unset] [(.ref c0)]))
  refine OGo.by (fun _ k => XS.astoreN X3.here hx rfl (hb hby d32_15) rfl rfl (l' := #[.val (.ref a0), .val (.int (0 : Int32)), .val (.ref c0)]) rfl k) ?_
  show OGo p e below _ (T3.setTop (mkF m 16 #[.val (.ref a0), .val (.int (0 : Int32)), .val (.ref c0)] []))
  refine OGo.by (fun _ k => XS.aloadN X3.here hx rfl (hb hby d32_16) rfl rfl k) ?_
  show OGo p e below _ (T3.setTop (mkF m 17 #[.val (.ref a0), .val (.int (0 : Int32)), .val (.ref c0)] [(.ref a0)]))
  refine OGo.by (fun _ k => XS.iloadN X3.here hx rfl (hb hby d32_17) rfl k) ?_
  show OGo p e below _ (T3.setTop (mkF m 18 #[.val (.ref a0), .val (.int (0 : Int32)), .val (.ref c0)] [(.int (0 : Int32)), (.ref a0)]))
  refine OGo.by (fun _ k => XS.iconst X3.here hx rfl (hb hby d32_18) k) ?_
  show OGo p e below _ (T3.setTop (mkF m 19 #[.val (.ref a0), .val (.int (0 : Int32)), .val (.ref c0)] [(.int (1 : Int32)), (.int (0 : Int32)), (.ref a0)]))
  refine OGo.by (fun _ k => XS.iadd X3.here hx rfl (hb hby d32_19) rfl k) ?_
  show OGo p e below _ (T3.setTop (mkF m 20 #[.val (.ref a0), .val (.int (0 : Int32)), .val (.ref c0)] [(.int (1 : Int32)), (.ref a0)]))
  obtain ⟨T4, h4, X4, e4, W4, st4⟩ := putF X3 hx hZ hown (host := "") (Or.inl (hw _ (List.mem_of_getElem? (i := 105) rfl))) Via.refl e3 F2 E0 (Or.inl (hw _ (List.mem_of_getElem? (i := 106) rfl))) (hw _ (List.mem_of_getElem? (i := 85) rfl)) (ty := .int) (by decide) rfl rfl (g := (mkF m 20 #[.val (.ref a0), .val (.int (0 : Int32)), .val (.ref c0)] [(.int (1 : Int32)), (.ref a0)])) rfl rfl (hb hby d32_20)
  refine OGo.by st4 ?_
  have Fw4 := F2.same W4
  have N4 := Fr.snoc X4 N3 g_a0
  have K4 : Keep h0 h4 [a0] := ((Keep.refl h0 [a0])).wr W4 (Or.inl (List.mem_of_getElem? (i := 0) rfl))
  show OGo p e below _ (T4.setTop (mkF m 23 #[.val (.ref a0), .val (.int (0 : Int32)), .val (.ref c0)] []))
  refine OGo.by (fun _ k => XS.aloadN X4.here hx rfl (hb hby d32_23) rfl rfl k) ?_
  show OGo p e below _ (T4.setTop (mkF m 24 #[.val (.ref a0), .val (.int (0 : Int32)), .val (.ref c0)] [(.ref c0)]))
  obtain ⟨fs, hr, hrun, hended, hW, hsame⟩ := X4.leave (v := some (.ref c0)) (fun h => by rw [Bd.returns] at h; cases h)
  refine OGo.ret (retOut X4 hx Bd.returns rfl (Or.inr (Or.inr (Or.inr (Or.inr ⟨rfl, rfl, rfl⟩)))) (hb hby d32_24) hr) hrun hended ⟨_, _, rfl, ?_, ⟨_, rfl⟩, hW, hsame.mono (by decide) (by decide)⟩
  show Q_rm_nx3_0 Z a0 li t kt c0 c1 c2 h0 n0 _ T4.heap _
  rw [e4]
  have f5 : Exa Z h4 a0 "java/util/ImmutableCollections$ListItr" := (E0.wr W4)
  have f6 : Fld Z h4 a0 "java/util/ImmutableCollections$ListItr" "list" "Ljava/util/List;" (.ref li) := (F0.other W4 (Or.inr (slot_ne (Or.inr (hw _ (List.mem_of_getElem? (i := 102) rfl))) (Or.inl (hw _ (List.mem_of_getElem? (i := 106) rfl))) (by decide) (t := (.object "java/util/List")) (t' := .int) (by decide) (by decide))))
  have f7 : Fld Z h4 a0 "java/util/ImmutableCollections$ListItr" "size" "I" (.int (3 : Int32)) := (F1.other W4 (Or.inr (slot_ne (Or.inr (hw _ (List.mem_of_getElem? (i := 104) rfl))) (Or.inl (hw _ (List.mem_of_getElem? (i := 106) rfl))) (by decide) (t := .int) (t' := .int) (by decide) (by decide))))
  exact ⟨rfl, N4, K4, f5, f6, f7, Fw4⟩
theorem ef_rm_hn3_1 (m : MethodId) (a0 : Addr) : entryFrame m #[(.ref a0)] 1 = mkF m 0 #[.val (.ref a0)] [] := by first | (simp [entryFrame, mkF, argsToLocals, Value.category]; done) | rfl
def Q_rm_hn3_1 (Z : State) (a0 : Addr) (h0 : Heap) (n0 : Nat) (v : Option Value) (h : Heap) (L : List Loc) : Prop := v = some (.int (1 : Int32)) ∧ Fr n0 L ∧ h = h0
set_option maxRecDepth 65536 in
set_option maxHeartbeats 40000000 in
theorem rm_hn3_1 (l : Launch) (Z : State) (av0 : Array Value) (hw : ∀ d ∈ tables_1, d.before av0 Z = true) (ws : List Jvm.Cond) (a0 : Addr) (h0 : Heap) (n0 : Nat) (Z0 : n0 ≤ h0.size) (F1 : Fld Z h0 a0 "java/util/ImmutableCollections$ListItr" "size" "I" (.int (3 : Int32))) (F2 : Fld Z h0 a0 "java/util/ImmutableCollections$ListItr" "cursor" "I" (.int (1 : Int32))) :
    MetFree l (⟨"java/util/ImmutableCollections$ListItr", "hasNext", "()Z"⟩ : MethodName) (head1 (Jvm.Cond.code (⟨"java/util/ImmutableCollections$ListItr", "hasNext", "()Z"⟩ : MethodName) jdk_53_method_3_code 1 (some .boolean) :: ws) ({ frames := 0, cells := 0, slots := 0, locals := 0 } : Room)) (fun a U => a = #[(.ref a0)] ∧ Z.Warmed39 U.vm ∧ U.heap = h0) (fun _ _ _ _ _ => True) (fun _ U o U' => ∃ v L, o = .returned v ∧ Q_rm_hn3_1 Z a0 h0 n0 v U'.heap L ∧ FrameEnd U o U' L ({ frames := 0, cells := 0, slots := 0, locals := 0 } : Room).cells ({ frames := 0, cells := 0, slots := 0, locals := 0 } : Room).slots) := by
  refine MetFree.of_bodySF (plainFor_of_name own_pn15) hisR ?_
  intro p e s m args below meth c s₁ Bd hml0 hP hK
  obtain ⟨rfl, hZ, hh⟩ := hP
  have hx := Bd.exec
  have hby := Bd.bytes
  have hml : c.maxLocals = 1 := hml0
  have hown : s.vm.findClass "java/util/ImmutableCollections$ListItr" = some m.cls := findClass_of_methodNamed Bd.named
  have hnm := (name_of_methodNamed Bd.named Bd.method).1
  have X0 : Stand p l e ({ frames := 0, cells := 0, slots := 0, locals := 0 } : Room) s m #[(.ref a0)] below meth c s₁ [] 0 0 := Stand.of_body Bd
  have e0 : s₁.heap = h0 := by rw [← hh, Bd.state]; rfl
  have N0 := Fr.nil n0
  refine OGo.by (P := fun U' o => ∃ v L, o = .returned v ∧ Q_rm_hn3_1 Z a0 h0 n0 v U'.heap L ∧ FrameEnd s o U' L ({ frames := 0, cells := 0, slots := 0, locals := 0 } : Room).cells ({ frames := 0, cells := 0, slots := 0, locals := 0 } : Room).slots) (fun T_ k_ => castTop (ef_rm_hn3_1 m a0) k_) ?_
  show OGo p e below _ (s₁.setTop (mkF m 0 #[.val (.ref a0)] []))
  refine OGo.by (fun _ k => XS.aloadN X0.here hx rfl (hb hby d15_0) rfl rfl k) ?_
  show OGo p e below _ (s₁.setTop (mkF m 1 #[.val (.ref a0)] [(.ref a0)]))
  obtain ⟨T1, X1, e1, st1⟩ := getF X0 hx hZ hown (host := "") (Or.inl (hw _ (List.mem_of_getElem? (i := 105) rfl))) Via.refl e0 F2 (g := (mkF m 1 #[.val (.ref a0)] [(.ref a0)])) rfl rfl (hb hby d15_1)
  refine OGo.by st1 ?_
  show OGo p e below _ (T1.setTop (mkF m 4 #[.val (.ref a0)] [(.int (1 : Int32))]))
  refine OGo.by (fun _ k => XS.aloadN X1.here hx rfl (hb hby d15_4) rfl rfl k) ?_
  show OGo p e below _ (T1.setTop (mkF m 5 #[.val (.ref a0)] [(.ref a0), (.int (1 : Int32))]))
  obtain ⟨T2, X2, e2, st2⟩ := getF X1 hx hZ hown (host := "") (Or.inl (hw _ (List.mem_of_getElem? (i := 103) rfl))) Via.refl e1 F1 (g := (mkF m 5 #[.val (.ref a0)] [(.ref a0), (.int (1 : Int32))])) rfl rfl (hb hby d15_5)
  refine OGo.by st2 ?_
  show OGo p e below _ (T2.setTop (mkF m 8 #[.val (.ref a0)] [(.int (3 : Int32)), (.int (1 : Int32))]))
  refine OGo.by (fun _ k => XS.icmpNo X2.here hx rfl (hb hby d15_8) rfl (feq (by decide : ¬ ((1 : Int32) = (3 : Int32)))).1 k) ?_
  show OGo p e below _ (T2.setTop (mkF m 11 #[.val (.ref a0)] []))
  refine OGo.by (fun _ k => XS.iconst X2.here hx rfl (hb hby d15_11) k) ?_
  show OGo p e below _ (T2.setTop (mkF m 12 #[.val (.ref a0)] [(.int (1 : Int32))]))
  refine OGo.by (fun _ k => XS.goto X2.here hx rfl (pc0 := 12) (pc' := 16) rfl (hb hby d15_12) (by decide) (by decide) k) ?_
  show OGo p e below _ (T2.setTop (mkF m 16 #[.val (.ref a0)] [(.int (1 : Int32))]))
  obtain ⟨fs, hr, hrun, hended, hW, hsame⟩ := X2.leave (v := some (.int (1 : Int32))) (fun h => by rw [Bd.returns] at h; cases h)
  refine OGo.ret (retN X2 hx (t := .boolean) Bd.returns (by simp) (hb hby d15_16) hr) hrun hended ⟨_, _, rfl, ?_, ⟨_, rfl⟩, hW, hsame.mono (by decide) (by decide)⟩
  show Q_rm_hn3_1 Z a0 h0 n0 _ T2.heap _
  rw [e2]
  exact ⟨rfl, N0, rfl⟩
theorem ef_rm_get3_1 (m : MethodId) (a0 : Addr) (t : Addr) (kt : ClassId) (c0 : Addr) (c1 : Addr) (c2 : Addr) : entryFrame m #[(.ref a0), (.int (1 : Int32))] 2 = mkF m 0 #[.val (.ref a0), .val (.int (1 : Int32))] [] := by first | (simp [entryFrame, mkF, argsToLocals, Value.category]; done) | rfl
def Q_rm_get3_1 (Z : State) (a0 : Addr) (t : Addr) (kt : ClassId) (c0 : Addr) (c1 : Addr) (c2 : Addr) (h0 : Heap) (n0 : Nat) (v : Option Value) (h : Heap) (L : List Loc) : Prop := v = some (.ref c1) ∧ Fr n0 L ∧ h = h0
set_option maxRecDepth 65536 in
set_option maxHeartbeats 40000000 in
theorem rm_get3_1 (l : Launch) (Z : State) (av0 : Array Value) (hw : ∀ d ∈ tables_1, d.before av0 Z = true) (ws : List Jvm.Cond) (a0 : Addr) (t : Addr) (kt : ClassId) (c0 : Addr) (c1 : Addr) (c2 : Addr) (h0 : Heap) (n0 : Nat) (Z0 : n0 ≤ h0.size) (l_0 : Exa Z h0 a0 "java/util/ImmutableCollections$ListN") (l_1 : Fld Z h0 a0 "java/util/ImmutableCollections$ListN" "elements" "[Ljava/lang/Object;" (.ref t)) (l_2 : Arv Z h0 t kt (.object "java/lang/Object") (3 : Int32) [(.ref c0), (.ref c1), (.ref c2)] .null) :
    MetFree l (⟨"java/util/ImmutableCollections$ListN", "get", "(I)Ljava/lang/Object;"⟩ : MethodName) (head1 (Jvm.Cond.code (⟨"java/util/ImmutableCollections$ListN", "get", "(I)Ljava/lang/Object;"⟩ : MethodName) jdk_45_method_4_code 2 (some (.object "java/lang/Object")) :: ws) ({ frames := 0, cells := 0, slots := 0, locals := 0 } : Room)) (fun a U => a = #[(.ref a0), (.int (1 : Int32))] ∧ Z.Warmed39 U.vm ∧ U.heap = h0) (fun _ _ _ _ _ => True) (fun _ U o U' => ∃ v L, o = .returned v ∧ Q_rm_get3_1 Z a0 t kt c0 c1 c2 h0 n0 v U'.heap L ∧ FrameEnd U o U' L ({ frames := 0, cells := 0, slots := 0, locals := 0 } : Room).cells ({ frames := 0, cells := 0, slots := 0, locals := 0 } : Room).slots) := by
  refine MetFree.of_bodySF (plainFor_of_name own_pn33) hisR ?_
  intro p e s m args below meth c s₁ Bd hml0 hP hK
  obtain ⟨rfl, hZ, hh⟩ := hP
  have hx := Bd.exec
  have hby := Bd.bytes
  have hml : c.maxLocals = 2 := hml0
  have hown : s.vm.findClass "java/util/ImmutableCollections$ListN" = some m.cls := findClass_of_methodNamed Bd.named
  have hnm := (name_of_methodNamed Bd.named Bd.method).1
  have X0 : Stand p l e ({ frames := 0, cells := 0, slots := 0, locals := 0 } : Room) s m #[(.ref a0), (.int (1 : Int32))] below meth c s₁ [] 0 0 := Stand.of_body Bd
  have e0 : s₁.heap = h0 := by rw [← hh, Bd.state]; rfl
  have N0 := Fr.nil n0
  refine OGo.by (P := fun U' o => ∃ v L, o = .returned v ∧ Q_rm_get3_1 Z a0 t kt c0 c1 c2 h0 n0 v U'.heap L ∧ FrameEnd s o U' L ({ frames := 0, cells := 0, slots := 0, locals := 0 } : Room).cells ({ frames := 0, cells := 0, slots := 0, locals := 0 } : Room).slots) (fun T_ k_ => castTop (ef_rm_get3_1 m a0 t kt c0 c1 c2) k_) ?_
  show OGo p e below _ (s₁.setTop (mkF m 0 #[.val (.ref a0), .val (.int (1 : Int32))] []))
  refine OGo.by (fun _ k => XS.aloadN X0.here hx rfl (hb hby d33_0) rfl rfl k) ?_
  show OGo p e below _ (s₁.setTop (mkF m 1 #[.val (.ref a0), .val (.int (1 : Int32))] [(.ref a0)]))
  obtain ⟨T1, X1, e1, st1⟩ := getF X0 hx hZ hown (host := "") (Or.inl (hw _ (List.mem_of_getElem? (i := 94) rfl))) Via.refl e0 l_1 (g := (mkF m 1 #[.val (.ref a0), .val (.int (1 : Int32))] [(.ref a0)])) rfl rfl (hb hby d33_1)
  refine OGo.by st1 ?_
  show OGo p e below _ (T1.setTop (mkF m 4 #[.val (.ref a0), .val (.int (1 : Int32))] [(.ref t)]))
  refine OGo.by (fun _ k => XS.iloadN X1.here hx rfl (hb hby d33_4) rfl k) ?_
  show OGo p e below _ (T1.setTop (mkF m 5 #[.val (.ref a0), .val (.int (1 : Int32))] [(.int (1 : Int32)), (.ref t)]))
  obtain ⟨cl2, Ar2, q2, S2, M2, Hs2, G2⟩ := id l_2
  have hin2 := inb_of (j := (1 : Int32)) S2 ⟨(by decide), (by decide)⟩
  refine OGo.by (X1.aaload hx (j := (1 : Int32)) (v := (.ref c1)) (by rw [e1]; exact Ar2.1) (State.isArrayOf_alike hZ.alike Ar2.2.1) rfl Ar2.2.2 hin2 (Has.at Hs2 hin2 rfl) (g := (mkF m 5 #[.val (.ref a0), .val (.int (1 : Int32))] [(.int (1 : Int32)), (.ref t)])) rfl rfl (hb hby d33_5)) ?_
  show OGo p e below _ (T1.setTop (mkF m 6 #[.val (.ref a0), .val (.int (1 : Int32))] [(.ref c1)]))
  obtain ⟨fs, hr, hrun, hended, hW, hsame⟩ := X1.leave (v := some (.ref c1)) (fun h => by rw [Bd.returns] at h; cases h)
  refine OGo.ret (retOut X1 hx Bd.returns rfl (Or.inr (Or.inr (Or.inr (Or.inr ⟨rfl, rfl, rfl⟩)))) (hb hby d33_6) hr) hrun hended ⟨_, _, rfl, ?_, ⟨_, rfl⟩, hW, hsame.mono (by decide) (by decide)⟩
  show Q_rm_get3_1 Z a0 t kt c0 c1 c2 h0 n0 _ T1.heap _
  rw [e1]
  exact ⟨rfl, N0, rfl⟩
theorem ef_rm_nx3_1 (m : MethodId) (a0 : Addr) : entryFrame m #[(.ref a0)] 3 = mkF m 0 #[.val (.ref a0), .unset, .unset] [] := by first | (simp [entryFrame, mkF, argsToLocals, Value.category]; done) | rfl
def Q_rm_nx3_1 (Z : State) (a0 : Addr) (li : Addr) (t : Addr) (kt : ClassId) (c0 : Addr) (c1 : Addr) (c2 : Addr) (h0 : Heap) (n0 : Nat) (v : Option Value) (h : Heap) (L : List Loc) : Prop := v = some (.ref c1) ∧ Fr n0 L ∧ Keep h0 h [a0] ∧ (Exa Z h a0 "java/util/ImmutableCollections$ListItr") ∧ (Fld Z h a0 "java/util/ImmutableCollections$ListItr" "list" "Ljava/util/List;" (.ref li)) ∧ (Fld Z h a0 "java/util/ImmutableCollections$ListItr" "size" "I" (.int (3 : Int32))) ∧ (Fld Z h a0 "java/util/ImmutableCollections$ListItr" "cursor" "I" (.int (2 : Int32)))
set_option maxRecDepth 65536 in
set_option maxHeartbeats 40000000 in
theorem rm_nx3_1 (l : Launch) (Z : State) (av0 : Array Value) (hw : ∀ d ∈ tables_1, d.before av0 Z = true) (ws : List Jvm.Cond) (a0 : Addr) (li : Addr) (t : Addr) (kt : ClassId) (c0 : Addr) (c1 : Addr) (c2 : Addr) (h0 : Heap) (n0 : Nat) (Z0 : n0 ≤ h0.size) (E0 : Exa Z h0 a0 "java/util/ImmutableCollections$ListItr") (F0 : Fld Z h0 a0 "java/util/ImmutableCollections$ListItr" "list" "Ljava/util/List;" (.ref li)) (F1 : Fld Z h0 a0 "java/util/ImmutableCollections$ListItr" "size" "I" (.int (3 : Int32))) (F2 : Fld Z h0 a0 "java/util/ImmutableCollections$ListItr" "cursor" "I" (.int (1 : Int32))) (g_a0 : n0 ≤ a0) (l_0 : Exa Z h0 li "java/util/ImmutableCollections$ListN") (l_1 : Fld Z h0 li "java/util/ImmutableCollections$ListN" "elements" "[Ljava/lang/Object;" (.ref t)) (l_2 : Arv Z h0 t kt (.object "java/lang/Object") (3 : Int32) [(.ref c0), (.ref c1), (.ref c2)] .null) :
    MetFree l (⟨"java/util/ImmutableCollections$ListItr", "next", "()Ljava/lang/Object;"⟩ : MethodName) (head1 (Jvm.Cond.codeWith (⟨"java/util/ImmutableCollections$ListItr", "next", "()Ljava/lang/Object;"⟩ : MethodName) jdk_53_method_4_code 3 (some (.object "java/lang/Object")) [(0, 24, 25, 30)] :: ws) ({ frames := 1, cells := 0, slots := 0, locals := 13 } : Room)) (fun a U => a = #[(.ref a0)] ∧ Z.Warmed39 U.vm ∧ U.heap = h0) (fun _ _ _ _ _ => True) (fun _ U o U' => ∃ v L, o = .returned v ∧ Q_rm_nx3_1 Z a0 li t kt c0 c1 c2 h0 n0 v U'.heap L ∧ FrameEnd U o U' L ({ frames := 1, cells := 0, slots := 0, locals := 13 } : Room).cells ({ frames := 1, cells := 0, slots := 0, locals := 13 } : Room).slots) := by
  refine MetFree.of_bodySF (plainFor_of_name own_pn32) hisWith ?_
  intro p e s m args below meth c s₁ Bd hml0 hP hK
  obtain ⟨rfl, hZ, hh⟩ := hP
  have hx := Bd.exec
  have hby := Bd.bytes
  have hml : c.maxLocals = 3 := hml0
  have hown : s.vm.findClass "java/util/ImmutableCollections$ListItr" = some m.cls := findClass_of_methodNamed Bd.named
  have hnm := (name_of_methodNamed Bd.named Bd.method).1
  have X0 : Stand p l e ({ frames := 1, cells := 0, slots := 0, locals := 13 } : Room) s m #[(.ref a0)] below meth c s₁ [] 0 0 := Stand.of_body Bd
  have e0 : s₁.heap = h0 := by rw [← hh, Bd.state]; rfl
  have N0 := Fr.nil n0
  refine OGo.by (P := fun U' o => ∃ v L, o = .returned v ∧ Q_rm_nx3_1 Z a0 li t kt c0 c1 c2 h0 n0 v U'.heap L ∧ FrameEnd s o U' L ({ frames := 1, cells := 0, slots := 0, locals := 13 } : Room).cells ({ frames := 1, cells := 0, slots := 0, locals := 13 } : Room).slots) (fun T_ k_ => castTop (ef_rm_nx3_1 m a0) k_) ?_
  show OGo p e below _ (s₁.setTop (mkF m 0 #[.val (.ref a0), .unset, .unset] []))
  refine OGo.by (fun _ k => XS.aloadN X0.here hx rfl (hb hby d32_0) rfl rfl k) ?_
  show OGo p e below _ (s₁.setTop (mkF m 1 #[.val (.ref a0), .unset, .unset] [(.ref a0)]))
  obtain ⟨T1, X1, e1, st1⟩ := getF X0 hx hZ hown (host := "") (Or.inl (hw _ (List.mem_of_getElem? (i := 105) rfl))) Via.refl e0 F2 (g := (mkF m 1 #[.val (.ref a0), .unset, .unset] [(.ref a0)])) rfl rfl (hb hby d32_1)
  refine OGo.by st1 ?_
  show OGo p e below _ (T1.setTop (mkF m 4 #[.val (.ref a0), .unset, .unset] [(.int (1 : Int32))]))
  refine OGo.by (fun _ k => XS.istoreN X1.here hx rfl (hb hby d32_4) rfl (l' := #[.val (.ref a0), .val (.int (1 : Int32)), .unset]) rfl k) ?_
  show OGo p e below _ (T1.setTop (mkF m 5 #[.val (.ref a0), .val (.int (1 : Int32)), .unset] []))
  refine OGo.by (fun _ k => XS.aloadN X1.here hx rfl (hb hby d32_5) rfl rfl k) ?_
  show OGo p e below _ (T1.setTop (mkF m 6 #[.val (.ref a0), .val (.int (1 : Int32)), .unset] [(.ref a0)]))
  obtain ⟨T2, X2, e2, st2⟩ := getF X1 hx hZ hown (host := "") (Or.inl (hw _ (List.mem_of_getElem? (i := 101) rfl))) Via.refl e1 F0 (g := (mkF m 6 #[.val (.ref a0), .val (.int (1 : Int32)), .unset] [(.ref a0)])) rfl rfl (hb hby d32_6)
  refine OGo.by st2 ?_
  show OGo p e below _ (T2.setTop (mkF m 9 #[.val (.ref a0), .val (.int (1 : Int32)), .unset] [(.ref li)]))
  refine OGo.by (fun _ k => XS.iloadN X2.here hx rfl (hb hby d32_9) rfl k) ?_
  show OGo p e below _ (T2.setTop (mkF m 10 #[.val (.ref a0), .val (.int (1 : Int32)), .unset] [(.int (1 : Int32)), (.ref li)]))
  obtain ⟨cq3, kq3, q3a, q3b, q3c⟩ := isOf hZ e2 l_0
  obtain ⟨_, _, ⟨T3, L3, k3, n3⟩, -, X3, ⟨Lc3, hQ3, l3, y3, z3⟩, st3⟩ := X2.interfaceBack hx (xi := (⟨"java/util/List", "get", "(I)Ljava/lang/Object;"⟩ : MethodName)) (y := (⟨"java/util/ImmutableCollections$ListN", "get", "(I)Ljava/lang/Object;"⟩ : MethodName)) hown (mvT hZ (hw _ (List.mem_of_getElem? (i := 242) rfl))) (mvT hZ (hw _ (List.mem_of_getElem? (i := 243) rfl))) (mvT hZ (hw _ (List.mem_of_getElem? (i := 244) rfl))) (mvT hZ (hw _ (List.mem_of_getElem? (i := 245) rfl))) (mvT hZ (hw _ (List.mem_of_getElem? (i := 246) rfl))) (mvT hZ (hw _ (List.mem_of_getElem? (i := 247) rfl))) (mvT hZ (hw _ (List.mem_of_getElem? (i := 248) rfl))) (mvT hZ (hw _ (List.mem_of_getElem? (i := 81) rfl))) (by decide) (backOf (W := 0) (rm_get3_1 l Z av0 hw [] li t kt c0 c1 c2 h0 n0 Z0 l_0 l_1 l_2) hZ (hw _ (List.mem_of_getElem? (i := 249) rfl)) (hw _ (List.mem_of_getElem? (i := 92) rfl)) (by decide) (by decide)) q3a q3b q3c (g := (mkF m 10 #[.val (.ref a0), .val (.int (1 : Int32)), .unset] [(.int (1 : Int32)), (.ref li)])) rfl (by rw [hml]; rfl) (Steps.refl _) (argsL := [(.int (1 : Int32))]) (rest := []) (lenOf own_pd18 rfl) rfl (by show 2 * 0 + _ ≤ _; exact Nat.le_of_eq rfl) (hb hby d32_10) (fun _ _ => ⟨rfl, e2, (by decide : 0 + 0 ≤ _), (by decide : 0 + 0 ≤ _)⟩)
  dsimp only [Pt.U, Pt.locs, Pt.cells, Pt.slots] at X3 l3 y3 z3 st3 hQ3
  subst l3 y3 z3
  obtain ⟨rfl, N3q, e3⟩ := hQ3
  have N3 := Fr.app N0 N3q
  refine OGo.of st3 ?_
  show OGo p e below _ (T3.setTop (mkF m 15 #[.val (.ref a0), .val (.int (1 : Int32)), .unset] [(.ref c1)]))
  refine OGo.by (fun _ k => XS.astoreN X3.here hx rfl (hb hby d32_15) rfl rfl (l' := #[.val (.ref a0), .val (.int (1 : Int32)), .val (.ref c1)]) rfl k) ?_
  show OGo p e below _ (T3.setTop (mkF m 16 #[.val (.ref a0), .val (.int (1 : Int32)), .val (.ref c1)] []))
  refine OGo.by (fun _ k => XS.aloadN X3.here hx rfl (hb hby d32_16) rfl rfl k) ?_
  show OGo p e below _ (T3.setTop (mkF m 17 #[.val (.ref a0), .val (.int (1 : Int32)), .val (.ref c1)] [(.ref a0)]))
  refine OGo.by (fun _ k => XS.iloadN X3.here hx rfl (hb hby d32_17) rfl k) ?_
  show OGo p e below _ (T3.setTop (mkF m 18 #[.val (.ref a0), .val (.int (1 : Int32)), .val (.ref c1)] [(.int (1 : Int32)), (.ref a0)]))
  refine OGo.by (fun _ k => XS.iconst X3.here hx rfl (hb hby d32_18) k) ?_
  show OGo p e below _ (T3.setTop (mkF m 19 #[.val (.ref a0), .val (.int (1 : Int32)), .val (.ref c1)] [(.int (1 : Int32)), (.int (1 : Int32)), (.ref a0)]))
  refine OGo.by (fun _ k => XS.iadd X3.here hx rfl (hb hby d32_19) rfl k) ?_
  show OGo p e below _ (T3.setTop (mkF m 20 #[.val (.ref a0), .val (.int (1 : Int32)), .val (.ref c1)] [(.int (2 : Int32)), (.ref a0)]))
  obtain ⟨T4, h4, X4, e4, W4, st4⟩ := putF X3 hx hZ hown (host := "") (Or.inl (hw _ (List.mem_of_getElem? (i := 105) rfl))) Via.refl e3 F2 E0 (Or.inl (hw _ (List.mem_of_getElem? (i := 106) rfl))) (hw _ (List.mem_of_getElem? (i := 85) rfl)) (ty := .int) (by decide) rfl rfl (g := (mkF m 20 #[.val (.ref a0), .val (.int (1 : Int32)), .val (.ref c1)] [(.int (2 : Int32)), (.ref a0)])) rfl rfl (hb hby d32_20)
  refine OGo.by st4 ?_
  have Fw4 := F2.same W4
  have N4 := Fr.snoc X4 N3 g_a0
  have K4 : Keep h0 h4 [a0] := ((Keep.refl h0 [a0])).wr W4 (Or.inl (List.mem_of_getElem? (i := 0) rfl))
  show OGo p e below _ (T4.setTop (mkF m 23 #[.val (.ref a0), .val (.int (1 : Int32)), .val (.ref c1)] []))
  refine OGo.by (fun _ k => XS.aloadN X4.here hx rfl (hb hby d32_23) rfl rfl k) ?_
  show OGo p e below _ (T4.setTop (mkF m 24 #[.val (.ref a0), .val (.int (1 : Int32)), .val (.ref c1)] [(.ref c1)]))
  obtain ⟨fs, hr, hrun, hended, hW, hsame⟩ := X4.leave (v := some (.ref c1)) (fun h => by rw [Bd.returns] at h; cases h)
  refine OGo.ret (retOut X4 hx Bd.returns rfl (Or.inr (Or.inr (Or.inr (Or.inr ⟨rfl, rfl, rfl⟩)))) (hb hby d32_24) hr) hrun hended ⟨_, _, rfl, ?_, ⟨_, rfl⟩, hW, hsame.mono (by decide) (by decide)⟩
  show Q_rm_nx3_1 Z a0 li t kt c0 c1 c2 h0 n0 _ T4.heap _
  rw [e4]
  have f5 : Exa Z h4 a0 "java/util/ImmutableCollections$ListItr" := (E0.wr W4)
  have f6 : Fld Z h4 a0 "java/util/ImmutableCollections$ListItr" "list" "Ljava/util/List;" (.ref li) := (F0.other W4 (Or.inr (slot_ne (Or.inr (hw _ (List.mem_of_getElem? (i := 102) rfl))) (Or.inl (hw _ (List.mem_of_getElem? (i := 106) rfl))) (by decide) (t := (.object "java/util/List")) (t' := .int) (by decide) (by decide))))
  have f7 : Fld Z h4 a0 "java/util/ImmutableCollections$ListItr" "size" "I" (.int (3 : Int32)) := (F1.other W4 (Or.inr (slot_ne (Or.inr (hw _ (List.mem_of_getElem? (i := 104) rfl))) (Or.inl (hw _ (List.mem_of_getElem? (i := 106) rfl))) (by decide) (t := .int) (t' := .int) (by decide) (by decide))))
  exact ⟨rfl, N4, K4, f5, f6, f7, Fw4⟩
theorem ef_rm_hn3_2 (m : MethodId) (a0 : Addr) : entryFrame m #[(.ref a0)] 1 = mkF m 0 #[.val (.ref a0)] [] := by first | (simp [entryFrame, mkF, argsToLocals, Value.category]; done) | rfl
def Q_rm_hn3_2 (Z : State) (a0 : Addr) (h0 : Heap) (n0 : Nat) (v : Option Value) (h : Heap) (L : List Loc) : Prop := v = some (.int (1 : Int32)) ∧ Fr n0 L ∧ h = h0
set_option maxRecDepth 65536 in
set_option maxHeartbeats 40000000 in
theorem rm_hn3_2 (l : Launch) (Z : State) (av0 : Array Value) (hw : ∀ d ∈ tables_1, d.before av0 Z = true) (ws : List Jvm.Cond) (a0 : Addr) (h0 : Heap) (n0 : Nat) (Z0 : n0 ≤ h0.size) (F1 : Fld Z h0 a0 "java/util/ImmutableCollections$ListItr" "size" "I" (.int (3 : Int32))) (F2 : Fld Z h0 a0 "java/util/ImmutableCollections$ListItr" "cursor" "I" (.int (2 : Int32))) :
    MetFree l (⟨"java/util/ImmutableCollections$ListItr", "hasNext", "()Z"⟩ : MethodName) (head1 (Jvm.Cond.code (⟨"java/util/ImmutableCollections$ListItr", "hasNext", "()Z"⟩ : MethodName) jdk_53_method_3_code 1 (some .boolean) :: ws) ({ frames := 0, cells := 0, slots := 0, locals := 0 } : Room)) (fun a U => a = #[(.ref a0)] ∧ Z.Warmed39 U.vm ∧ U.heap = h0) (fun _ _ _ _ _ => True) (fun _ U o U' => ∃ v L, o = .returned v ∧ Q_rm_hn3_2 Z a0 h0 n0 v U'.heap L ∧ FrameEnd U o U' L ({ frames := 0, cells := 0, slots := 0, locals := 0 } : Room).cells ({ frames := 0, cells := 0, slots := 0, locals := 0 } : Room).slots) := by
  refine MetFree.of_bodySF (plainFor_of_name own_pn15) hisR ?_
  intro p e s m args below meth c s₁ Bd hml0 hP hK
  obtain ⟨rfl, hZ, hh⟩ := hP
  have hx := Bd.exec
  have hby := Bd.bytes
  have hml : c.maxLocals = 1 := hml0
  have hown : s.vm.findClass "java/util/ImmutableCollections$ListItr" = some m.cls := findClass_of_methodNamed Bd.named
  have hnm := (name_of_methodNamed Bd.named Bd.method).1
  have X0 : Stand p l e ({ frames := 0, cells := 0, slots := 0, locals := 0 } : Room) s m #[(.ref a0)] below meth c s₁ [] 0 0 := Stand.of_body Bd
  have e0 : s₁.heap = h0 := by rw [← hh, Bd.state]; rfl
  have N0 := Fr.nil n0
  refine OGo.by (P := fun U' o => ∃ v L, o = .returned v ∧ Q_rm_hn3_2 Z a0 h0 n0 v U'.heap L ∧ FrameEnd s o U' L ({ frames := 0, cells := 0, slots := 0, locals := 0 } : Room).cells ({ frames := 0, cells := 0, slots := 0, locals := 0 } : Room).slots) (fun T_ k_ => castTop (ef_rm_hn3_2 m a0) k_) ?_
  show OGo p e below _ (s₁.setTop (mkF m 0 #[.val (.ref a0)] []))
  refine OGo.by (fun _ k => XS.aloadN X0.here hx rfl (hb hby d15_0) rfl rfl k) ?_
  show OGo p e below _ (s₁.setTop (mkF m 1 #[.val (.ref a0)] [(.ref a0)]))
  obtain ⟨T1, X1, e1, st1⟩ := getF X0 hx hZ hown (host := "") (Or.inl (hw _ (List.mem_of_getElem? (i := 105) rfl))) Via.refl e0 F2 (g := (mkF m 1 #[.val (.ref a0)] [(.ref a0)])) rfl rfl (hb hby d15_1)
  refine OGo.by st1 ?_
  show OGo p e below _ (T1.setTop (mkF m 4 #[.val (.ref a0)] [(.int (2 : Int32))]))
  refine OGo.by (fun _ k => XS.aloadN X1.here hx rfl (hb hby d15_4) rfl rfl k) ?_
  show OGo p e below _ (T1.setTop (mkF m 5 #[.val (.ref a0)] [(.ref a0), (.int (2 : Int32))]))
  obtain ⟨T2, X2, e2, st2⟩ := getF X1 hx hZ hown (host := "") (Or.inl (hw _ (List.mem_of_getElem? (i := 103) rfl))) Via.refl e1 F1 (g := (mkF m 5 #[.val (.ref a0)] [(.ref a0), (.int (2 : Int32))])) rfl rfl (hb hby d15_5)
  refine OGo.by st2 ?_
  show OGo p e below _ (T2.setTop (mkF m 8 #[.val (.ref a0)] [(.int (3 : Int32)), (.int (2 : Int32))]))
  refine OGo.by (fun _ k => XS.icmpNo X2.here hx rfl (hb hby d15_8) rfl (feq (by decide : ¬ ((2 : Int32) = (3 : Int32)))).1 k) ?_
  show OGo p e below _ (T2.setTop (mkF m 11 #[.val (.ref a0)] []))
  refine OGo.by (fun _ k => XS.iconst X2.here hx rfl (hb hby d15_11) k) ?_
  show OGo p e below _ (T2.setTop (mkF m 12 #[.val (.ref a0)] [(.int (1 : Int32))]))
  refine OGo.by (fun _ k => XS.goto X2.here hx rfl (pc0 := 12) (pc' := 16) rfl (hb hby d15_12) (by decide) (by decide) k) ?_
  show OGo p e below _ (T2.setTop (mkF m 16 #[.val (.ref a0)] [(.int (1 : Int32))]))
  obtain ⟨fs, hr, hrun, hended, hW, hsame⟩ := X2.leave (v := some (.int (1 : Int32))) (fun h => by rw [Bd.returns] at h; cases h)
  refine OGo.ret (retN X2 hx (t := .boolean) Bd.returns (by simp) (hb hby d15_16) hr) hrun hended ⟨_, _, rfl, ?_, ⟨_, rfl⟩, hW, hsame.mono (by decide) (by decide)⟩
  show Q_rm_hn3_2 Z a0 h0 n0 _ T2.heap _
  rw [e2]
  exact ⟨rfl, N0, rfl⟩
theorem ef_rm_get3_2 (m : MethodId) (a0 : Addr) (t : Addr) (kt : ClassId) (c0 : Addr) (c1 : Addr) (c2 : Addr) : entryFrame m #[(.ref a0), (.int (2 : Int32))] 2 = mkF m 0 #[.val (.ref a0), .val (.int (2 : Int32))] [] := by first | (simp [entryFrame, mkF, argsToLocals, Value.category]; done) | rfl
def Q_rm_get3_2 (Z : State) (a0 : Addr) (t : Addr) (kt : ClassId) (c0 : Addr) (c1 : Addr) (c2 : Addr) (h0 : Heap) (n0 : Nat) (v : Option Value) (h : Heap) (L : List Loc) : Prop := v = some (.ref c2) ∧ Fr n0 L ∧ h = h0
set_option maxRecDepth 65536 in
set_option maxHeartbeats 40000000 in
theorem rm_get3_2 (l : Launch) (Z : State) (av0 : Array Value) (hw : ∀ d ∈ tables_1, d.before av0 Z = true) (ws : List Jvm.Cond) (a0 : Addr) (t : Addr) (kt : ClassId) (c0 : Addr) (c1 : Addr) (c2 : Addr) (h0 : Heap) (n0 : Nat) (Z0 : n0 ≤ h0.size) (l_0 : Exa Z h0 a0 "java/util/ImmutableCollections$ListN") (l_1 : Fld Z h0 a0 "java/util/ImmutableCollections$ListN" "elements" "[Ljava/lang/Object;" (.ref t)) (l_2 : Arv Z h0 t kt (.object "java/lang/Object") (3 : Int32) [(.ref c0), (.ref c1), (.ref c2)] .null) :
    MetFree l (⟨"java/util/ImmutableCollections$ListN", "get", "(I)Ljava/lang/Object;"⟩ : MethodName) (head1 (Jvm.Cond.code (⟨"java/util/ImmutableCollections$ListN", "get", "(I)Ljava/lang/Object;"⟩ : MethodName) jdk_45_method_4_code 2 (some (.object "java/lang/Object")) :: ws) ({ frames := 0, cells := 0, slots := 0, locals := 0 } : Room)) (fun a U => a = #[(.ref a0), (.int (2 : Int32))] ∧ Z.Warmed39 U.vm ∧ U.heap = h0) (fun _ _ _ _ _ => True) (fun _ U o U' => ∃ v L, o = .returned v ∧ Q_rm_get3_2 Z a0 t kt c0 c1 c2 h0 n0 v U'.heap L ∧ FrameEnd U o U' L ({ frames := 0, cells := 0, slots := 0, locals := 0 } : Room).cells ({ frames := 0, cells := 0, slots := 0, locals := 0 } : Room).slots) := by
  refine MetFree.of_bodySF (plainFor_of_name own_pn33) hisR ?_
  intro p e s m args below meth c s₁ Bd hml0 hP hK
  obtain ⟨rfl, hZ, hh⟩ := hP
  have hx := Bd.exec
  have hby := Bd.bytes
  have hml : c.maxLocals = 2 := hml0
  have hown : s.vm.findClass "java/util/ImmutableCollections$ListN" = some m.cls := findClass_of_methodNamed Bd.named
  have hnm := (name_of_methodNamed Bd.named Bd.method).1
  have X0 : Stand p l e ({ frames := 0, cells := 0, slots := 0, locals := 0 } : Room) s m #[(.ref a0), (.int (2 : Int32))] below meth c s₁ [] 0 0 := Stand.of_body Bd
  have e0 : s₁.heap = h0 := by rw [← hh, Bd.state]; rfl
  have N0 := Fr.nil n0
  refine OGo.by (P := fun U' o => ∃ v L, o = .returned v ∧ Q_rm_get3_2 Z a0 t kt c0 c1 c2 h0 n0 v U'.heap L ∧ FrameEnd s o U' L ({ frames := 0, cells := 0, slots := 0, locals := 0 } : Room).cells ({ frames := 0, cells := 0, slots := 0, locals := 0 } : Room).slots) (fun T_ k_ => castTop (ef_rm_get3_2 m a0 t kt c0 c1 c2) k_) ?_
  show OGo p e below _ (s₁.setTop (mkF m 0 #[.val (.ref a0), .val (.int (2 : Int32))] []))
  refine OGo.by (fun _ k => XS.aloadN X0.here hx rfl (hb hby d33_0) rfl rfl k) ?_
  show OGo p e below _ (s₁.setTop (mkF m 1 #[.val (.ref a0), .val (.int (2 : Int32))] [(.ref a0)]))
  obtain ⟨T1, X1, e1, st1⟩ := getF X0 hx hZ hown (host := "") (Or.inl (hw _ (List.mem_of_getElem? (i := 94) rfl))) Via.refl e0 l_1 (g := (mkF m 1 #[.val (.ref a0), .val (.int (2 : Int32))] [(.ref a0)])) rfl rfl (hb hby d33_1)
  refine OGo.by st1 ?_
  show OGo p e below _ (T1.setTop (mkF m 4 #[.val (.ref a0), .val (.int (2 : Int32))] [(.ref t)]))
  refine OGo.by (fun _ k => XS.iloadN X1.here hx rfl (hb hby d33_4) rfl k) ?_
  show OGo p e below _ (T1.setTop (mkF m 5 #[.val (.ref a0), .val (.int (2 : Int32))] [(.int (2 : Int32)), (.ref t)]))
  obtain ⟨cl2, Ar2, q2, S2, M2, Hs2, G2⟩ := id l_2
  have hin2 := inb_of (j := (2 : Int32)) S2 ⟨(by decide), (by decide)⟩
  refine OGo.by (X1.aaload hx (j := (2 : Int32)) (v := (.ref c2)) (by rw [e1]; exact Ar2.1) (State.isArrayOf_alike hZ.alike Ar2.2.1) rfl Ar2.2.2 hin2 (Has.at Hs2 hin2 rfl) (g := (mkF m 5 #[.val (.ref a0), .val (.int (2 : Int32))] [(.int (2 : Int32)), (.ref t)])) rfl rfl (hb hby d33_5)) ?_
  show OGo p e below _ (T1.setTop (mkF m 6 #[.val (.ref a0), .val (.int (2 : Int32))] [(.ref c2)]))
  obtain ⟨fs, hr, hrun, hended, hW, hsame⟩ := X1.leave (v := some (.ref c2)) (fun h => by rw [Bd.returns] at h; cases h)
  refine OGo.ret (retOut X1 hx Bd.returns rfl (Or.inr (Or.inr (Or.inr (Or.inr ⟨rfl, rfl, rfl⟩)))) (hb hby d33_6) hr) hrun hended ⟨_, _, rfl, ?_, ⟨_, rfl⟩, hW, hsame.mono (by decide) (by decide)⟩
  show Q_rm_get3_2 Z a0 t kt c0 c1 c2 h0 n0 _ T1.heap _
  rw [e1]
  exact ⟨rfl, N0, rfl⟩
theorem ef_rm_nx3_2 (m : MethodId) (a0 : Addr) : entryFrame m #[(.ref a0)] 3 = mkF m 0 #[.val (.ref a0), .unset, .unset] [] := by first | (simp [entryFrame, mkF, argsToLocals, Value.category]; done) | rfl
def Q_rm_nx3_2 (Z : State) (a0 : Addr) (li : Addr) (t : Addr) (kt : ClassId) (c0 : Addr) (c1 : Addr) (c2 : Addr) (h0 : Heap) (n0 : Nat) (v : Option Value) (h : Heap) (L : List Loc) : Prop := v = some (.ref c2) ∧ Fr n0 L ∧ Keep h0 h [a0] ∧ (Exa Z h a0 "java/util/ImmutableCollections$ListItr") ∧ (Fld Z h a0 "java/util/ImmutableCollections$ListItr" "list" "Ljava/util/List;" (.ref li)) ∧ (Fld Z h a0 "java/util/ImmutableCollections$ListItr" "size" "I" (.int (3 : Int32))) ∧ (Fld Z h a0 "java/util/ImmutableCollections$ListItr" "cursor" "I" (.int (3 : Int32)))
set_option maxRecDepth 65536 in
set_option maxHeartbeats 40000000 in
theorem rm_nx3_2 (l : Launch) (Z : State) (av0 : Array Value) (hw : ∀ d ∈ tables_1, d.before av0 Z = true) (ws : List Jvm.Cond) (a0 : Addr) (li : Addr) (t : Addr) (kt : ClassId) (c0 : Addr) (c1 : Addr) (c2 : Addr) (h0 : Heap) (n0 : Nat) (Z0 : n0 ≤ h0.size) (E0 : Exa Z h0 a0 "java/util/ImmutableCollections$ListItr") (F0 : Fld Z h0 a0 "java/util/ImmutableCollections$ListItr" "list" "Ljava/util/List;" (.ref li)) (F1 : Fld Z h0 a0 "java/util/ImmutableCollections$ListItr" "size" "I" (.int (3 : Int32))) (F2 : Fld Z h0 a0 "java/util/ImmutableCollections$ListItr" "cursor" "I" (.int (2 : Int32))) (g_a0 : n0 ≤ a0) (l_0 : Exa Z h0 li "java/util/ImmutableCollections$ListN") (l_1 : Fld Z h0 li "java/util/ImmutableCollections$ListN" "elements" "[Ljava/lang/Object;" (.ref t)) (l_2 : Arv Z h0 t kt (.object "java/lang/Object") (3 : Int32) [(.ref c0), (.ref c1), (.ref c2)] .null) :
    MetFree l (⟨"java/util/ImmutableCollections$ListItr", "next", "()Ljava/lang/Object;"⟩ : MethodName) (head1 (Jvm.Cond.codeWith (⟨"java/util/ImmutableCollections$ListItr", "next", "()Ljava/lang/Object;"⟩ : MethodName) jdk_53_method_4_code 3 (some (.object "java/lang/Object")) [(0, 24, 25, 30)] :: ws) ({ frames := 1, cells := 0, slots := 0, locals := 13 } : Room)) (fun a U => a = #[(.ref a0)] ∧ Z.Warmed39 U.vm ∧ U.heap = h0) (fun _ _ _ _ _ => True) (fun _ U o U' => ∃ v L, o = .returned v ∧ Q_rm_nx3_2 Z a0 li t kt c0 c1 c2 h0 n0 v U'.heap L ∧ FrameEnd U o U' L ({ frames := 1, cells := 0, slots := 0, locals := 13 } : Room).cells ({ frames := 1, cells := 0, slots := 0, locals := 13 } : Room).slots) := by
  refine MetFree.of_bodySF (plainFor_of_name own_pn32) hisWith ?_
  intro p e s m args below meth c s₁ Bd hml0 hP hK
  obtain ⟨rfl, hZ, hh⟩ := hP
  have hx := Bd.exec
  have hby := Bd.bytes
  have hml : c.maxLocals = 3 := hml0
  have hown : s.vm.findClass "java/util/ImmutableCollections$ListItr" = some m.cls := findClass_of_methodNamed Bd.named
  have hnm := (name_of_methodNamed Bd.named Bd.method).1
  have X0 : Stand p l e ({ frames := 1, cells := 0, slots := 0, locals := 13 } : Room) s m #[(.ref a0)] below meth c s₁ [] 0 0 := Stand.of_body Bd
  have e0 : s₁.heap = h0 := by rw [← hh, Bd.state]; rfl
  have N0 := Fr.nil n0
  refine OGo.by (P := fun U' o => ∃ v L, o = .returned v ∧ Q_rm_nx3_2 Z a0 li t kt c0 c1 c2 h0 n0 v U'.heap L ∧ FrameEnd s o U' L ({ frames := 1, cells := 0, slots := 0, locals := 13 } : Room).cells ({ frames := 1, cells := 0, slots := 0, locals := 13 } : Room).slots) (fun T_ k_ => castTop (ef_rm_nx3_2 m a0) k_) ?_
  show OGo p e below _ (s₁.setTop (mkF m 0 #[.val (.ref a0), .unset, .unset] []))
  refine OGo.by (fun _ k => XS.aloadN X0.here hx rfl (hb hby d32_0) rfl rfl k) ?_
  show OGo p e below _ (s₁.setTop (mkF m 1 #[.val (.ref a0), .unset, .unset] [(.ref a0)]))
  obtain ⟨T1, X1, e1, st1⟩ := getF X0 hx hZ hown (host := "") (Or.inl (hw _ (List.mem_of_getElem? (i := 105) rfl))) Via.refl e0 F2 (g := (mkF m 1 #[.val (.ref a0), .unset, .unset] [(.ref a0)])) rfl rfl (hb hby d32_1)
  refine OGo.by st1 ?_
  show OGo p e below _ (T1.setTop (mkF m 4 #[.val (.ref a0), .unset, .unset] [(.int (2 : Int32))]))
  refine OGo.by (fun _ k => XS.istoreN X1.here hx rfl (hb hby d32_4) rfl (l' := #[.val (.ref a0), .val (.int (2 : Int32)), .unset]) rfl k) ?_
  show OGo p e below _ (T1.setTop (mkF m 5 #[.val (.ref a0), .val (.int (2 : Int32)), .unset] []))
  refine OGo.by (fun _ k => XS.aloadN X1.here hx rfl (hb hby d32_5) rfl rfl k) ?_
  show OGo p e below _ (T1.setTop (mkF m 6 #[.val (.ref a0), .val (.int (2 : Int32)), .unset] [(.ref a0)]))
  obtain ⟨T2, X2, e2, st2⟩ := getF X1 hx hZ hown (host := "") (Or.inl (hw _ (List.mem_of_getElem? (i := 101) rfl))) Via.refl e1 F0 (g := (mkF m 6 #[.val (.ref a0), .val (.int (2 : Int32)), .unset] [(.ref a0)])) rfl rfl (hb hby d32_6)
  refine OGo.by st2 ?_
  show OGo p e below _ (T2.setTop (mkF m 9 #[.val (.ref a0), .val (.int (2 : Int32)), .unset] [(.ref li)]))
  refine OGo.by (fun _ k => XS.iloadN X2.here hx rfl (hb hby d32_9) rfl k) ?_
  show OGo p e below _ (T2.setTop (mkF m 10 #[.val (.ref a0), .val (.int (2 : Int32)), .unset] [(.int (2 : Int32)), (.ref li)]))
  obtain ⟨cq3, kq3, q3a, q3b, q3c⟩ := isOf hZ e2 l_0
  obtain ⟨_, _, ⟨T3, L3, k3, n3⟩, -, X3, ⟨Lc3, hQ3, l3, y3, z3⟩, st3⟩ := X2.interfaceBack hx (xi := (⟨"java/util/List", "get", "(I)Ljava/lang/Object;"⟩ : MethodName)) (y := (⟨"java/util/ImmutableCollections$ListN", "get", "(I)Ljava/lang/Object;"⟩ : MethodName)) hown (mvT hZ (hw _ (List.mem_of_getElem? (i := 242) rfl))) (mvT hZ (hw _ (List.mem_of_getElem? (i := 243) rfl))) (mvT hZ (hw _ (List.mem_of_getElem? (i := 244) rfl))) (mvT hZ (hw _ (List.mem_of_getElem? (i := 245) rfl))) (mvT hZ (hw _ (List.mem_of_getElem? (i := 246) rfl))) (mvT hZ (hw _ (List.mem_of_getElem? (i := 247) rfl))) (mvT hZ (hw _ (List.mem_of_getElem? (i := 248) rfl))) (mvT hZ (hw _ (List.mem_of_getElem? (i := 81) rfl))) (by decide) (backOf (W := 0) (rm_get3_2 l Z av0 hw [] li t kt c0 c1 c2 h0 n0 Z0 l_0 l_1 l_2) hZ (hw _ (List.mem_of_getElem? (i := 249) rfl)) (hw _ (List.mem_of_getElem? (i := 92) rfl)) (by decide) (by decide)) q3a q3b q3c (g := (mkF m 10 #[.val (.ref a0), .val (.int (2 : Int32)), .unset] [(.int (2 : Int32)), (.ref li)])) rfl (by rw [hml]; rfl) (Steps.refl _) (argsL := [(.int (2 : Int32))]) (rest := []) (lenOf own_pd18 rfl) rfl (by show 2 * 0 + _ ≤ _; exact Nat.le_of_eq rfl) (hb hby d32_10) (fun _ _ => ⟨rfl, e2, (by decide : 0 + 0 ≤ _), (by decide : 0 + 0 ≤ _)⟩)
  dsimp only [Pt.U, Pt.locs, Pt.cells, Pt.slots] at X3 l3 y3 z3 st3 hQ3
  subst l3 y3 z3
  obtain ⟨rfl, N3q, e3⟩ := hQ3
  have N3 := Fr.app N0 N3q
  refine OGo.of st3 ?_
  show OGo p e below _ (T3.setTop (mkF m 15 #[.val (.ref a0), .val (.int (2 : Int32)), .unset] [(.ref c2)]))
  refine OGo.by (fun _ k => XS.astoreN X3.here hx rfl (hb hby d32_15) rfl rfl (l' := #[.val (.ref a0), .val (.int (2 : Int32)), .val (.ref c2)]) rfl k) ?_
  show OGo p e below _ (T3.setTop (mkF m 16 #[.val (.ref a0), .val (.int (2 : Int32)), .val (.ref c2)] []))
  refine OGo.by (fun _ k => XS.aloadN X3.here hx rfl (hb hby d32_16) rfl rfl k) ?_
  show OGo p e below _ (T3.setTop (mkF m 17 #[.val (.ref a0), .val (.int (2 : Int32)), .val (.ref c2)] [(.ref a0)]))
  refine OGo.by (fun _ k => XS.iloadN X3.here hx rfl (hb hby d32_17) rfl k) ?_
  show OGo p e below _ (T3.setTop (mkF m 18 #[.val (.ref a0), .val (.int (2 : Int32)), .val (.ref c2)] [(.int (2 : Int32)), (.ref a0)]))
  refine OGo.by (fun _ k => XS.iconst X3.here hx rfl (hb hby d32_18) k) ?_
  show OGo p e below _ (T3.setTop (mkF m 19 #[.val (.ref a0), .val (.int (2 : Int32)), .val (.ref c2)] [(.int (1 : Int32)), (.int (2 : Int32)), (.ref a0)]))
  refine OGo.by (fun _ k => XS.iadd X3.here hx rfl (hb hby d32_19) rfl k) ?_
  show OGo p e below _ (T3.setTop (mkF m 20 #[.val (.ref a0), .val (.int (2 : Int32)), .val (.ref c2)] [(.int (3 : Int32)), (.ref a0)]))
  obtain ⟨T4, h4, X4, e4, W4, st4⟩ := putF X3 hx hZ hown (host := "") (Or.inl (hw _ (List.mem_of_getElem? (i := 105) rfl))) Via.refl e3 F2 E0 (Or.inl (hw _ (List.mem_of_getElem? (i := 106) rfl))) (hw _ (List.mem_of_getElem? (i := 85) rfl)) (ty := .int) (by decide) rfl rfl (g := (mkF m 20 #[.val (.ref a0), .val (.int (2 : Int32)), .val (.ref c2)] [(.int (3 : Int32)), (.ref a0)])) rfl rfl (hb hby d32_20)
  refine OGo.by st4 ?_
  have Fw4 := F2.same W4
  have N4 := Fr.snoc X4 N3 g_a0
  have K4 : Keep h0 h4 [a0] := ((Keep.refl h0 [a0])).wr W4 (Or.inl (List.mem_of_getElem? (i := 0) rfl))
  show OGo p e below _ (T4.setTop (mkF m 23 #[.val (.ref a0), .val (.int (2 : Int32)), .val (.ref c2)] []))
  refine OGo.by (fun _ k => XS.aloadN X4.here hx rfl (hb hby d32_23) rfl rfl k) ?_
  show OGo p e below _ (T4.setTop (mkF m 24 #[.val (.ref a0), .val (.int (2 : Int32)), .val (.ref c2)] [(.ref c2)]))
  obtain ⟨fs, hr, hrun, hended, hW, hsame⟩ := X4.leave (v := some (.ref c2)) (fun h => by rw [Bd.returns] at h; cases h)
  refine OGo.ret (retOut X4 hx Bd.returns rfl (Or.inr (Or.inr (Or.inr (Or.inr ⟨rfl, rfl, rfl⟩)))) (hb hby d32_24) hr) hrun hended ⟨_, _, rfl, ?_, ⟨_, rfl⟩, hW, hsame.mono (by decide) (by decide)⟩
  show Q_rm_nx3_2 Z a0 li t kt c0 c1 c2 h0 n0 _ T4.heap _
  rw [e4]
  have f5 : Exa Z h4 a0 "java/util/ImmutableCollections$ListItr" := (E0.wr W4)
  have f6 : Fld Z h4 a0 "java/util/ImmutableCollections$ListItr" "list" "Ljava/util/List;" (.ref li) := (F0.other W4 (Or.inr (slot_ne (Or.inr (hw _ (List.mem_of_getElem? (i := 102) rfl))) (Or.inl (hw _ (List.mem_of_getElem? (i := 106) rfl))) (by decide) (t := (.object "java/util/List")) (t' := .int) (by decide) (by decide))))
  have f7 : Fld Z h4 a0 "java/util/ImmutableCollections$ListItr" "size" "I" (.int (3 : Int32)) := (F1.other W4 (Or.inr (slot_ne (Or.inr (hw _ (List.mem_of_getElem? (i := 104) rfl))) (Or.inl (hw _ (List.mem_of_getElem? (i := 106) rfl))) (by decide) (t := .int) (t' := .int) (by decide) (by decide))))
  exact ⟨rfl, N4, K4, f5, f6, f7, Fw4⟩
theorem ef_rm_hn3_3 (m : MethodId) (a0 : Addr) : entryFrame m #[(.ref a0)] 1 = mkF m 0 #[.val (.ref a0)] [] := by first | (simp [entryFrame, mkF, argsToLocals, Value.category]; done) | rfl
def Q_rm_hn3_3 (Z : State) (a0 : Addr) (h0 : Heap) (n0 : Nat) (v : Option Value) (h : Heap) (L : List Loc) : Prop := v = some (.int (0 : Int32)) ∧ Fr n0 L ∧ h = h0
set_option maxRecDepth 65536 in
set_option maxHeartbeats 40000000 in
theorem rm_hn3_3 (l : Launch) (Z : State) (av0 : Array Value) (hw : ∀ d ∈ tables_1, d.before av0 Z = true) (ws : List Jvm.Cond) (a0 : Addr) (h0 : Heap) (n0 : Nat) (Z0 : n0 ≤ h0.size) (F1 : Fld Z h0 a0 "java/util/ImmutableCollections$ListItr" "size" "I" (.int (3 : Int32))) (F2 : Fld Z h0 a0 "java/util/ImmutableCollections$ListItr" "cursor" "I" (.int (3 : Int32))) :
    MetFree l (⟨"java/util/ImmutableCollections$ListItr", "hasNext", "()Z"⟩ : MethodName) (head1 (Jvm.Cond.code (⟨"java/util/ImmutableCollections$ListItr", "hasNext", "()Z"⟩ : MethodName) jdk_53_method_3_code 1 (some .boolean) :: ws) ({ frames := 0, cells := 0, slots := 0, locals := 0 } : Room)) (fun a U => a = #[(.ref a0)] ∧ Z.Warmed39 U.vm ∧ U.heap = h0) (fun _ _ _ _ _ => True) (fun _ U o U' => ∃ v L, o = .returned v ∧ Q_rm_hn3_3 Z a0 h0 n0 v U'.heap L ∧ FrameEnd U o U' L ({ frames := 0, cells := 0, slots := 0, locals := 0 } : Room).cells ({ frames := 0, cells := 0, slots := 0, locals := 0 } : Room).slots) := by
  refine MetFree.of_bodySF (plainFor_of_name own_pn15) hisR ?_
  intro p e s m args below meth c s₁ Bd hml0 hP hK
  obtain ⟨rfl, hZ, hh⟩ := hP
  have hx := Bd.exec
  have hby := Bd.bytes
  have hml : c.maxLocals = 1 := hml0
  have hown : s.vm.findClass "java/util/ImmutableCollections$ListItr" = some m.cls := findClass_of_methodNamed Bd.named
  have hnm := (name_of_methodNamed Bd.named Bd.method).1
  have X0 : Stand p l e ({ frames := 0, cells := 0, slots := 0, locals := 0 } : Room) s m #[(.ref a0)] below meth c s₁ [] 0 0 := Stand.of_body Bd
  have e0 : s₁.heap = h0 := by rw [← hh, Bd.state]; rfl
  have N0 := Fr.nil n0
  refine OGo.by (P := fun U' o => ∃ v L, o = .returned v ∧ Q_rm_hn3_3 Z a0 h0 n0 v U'.heap L ∧ FrameEnd s o U' L ({ frames := 0, cells := 0, slots := 0, locals := 0 } : Room).cells ({ frames := 0, cells := 0, slots := 0, locals := 0 } : Room).slots) (fun T_ k_ => castTop (ef_rm_hn3_3 m a0) k_) ?_
  show OGo p e below _ (s₁.setTop (mkF m 0 #[.val (.ref a0)] []))
  refine OGo.by (fun _ k => XS.aloadN X0.here hx rfl (hb hby d15_0) rfl rfl k) ?_
  show OGo p e below _ (s₁.setTop (mkF m 1 #[.val (.ref a0)] [(.ref a0)]))
  obtain ⟨T1, X1, e1, st1⟩ := getF X0 hx hZ hown (host := "") (Or.inl (hw _ (List.mem_of_getElem? (i := 105) rfl))) Via.refl e0 F2 (g := (mkF m 1 #[.val (.ref a0)] [(.ref a0)])) rfl rfl (hb hby d15_1)
  refine OGo.by st1 ?_
  show OGo p e below _ (T1.setTop (mkF m 4 #[.val (.ref a0)] [(.int (3 : Int32))]))
  refine OGo.by (fun _ k => XS.aloadN X1.here hx rfl (hb hby d15_4) rfl rfl k) ?_
  show OGo p e below _ (T1.setTop (mkF m 5 #[.val (.ref a0)] [(.ref a0), (.int (3 : Int32))]))
  obtain ⟨T2, X2, e2, st2⟩ := getF X1 hx hZ hown (host := "") (Or.inl (hw _ (List.mem_of_getElem? (i := 103) rfl))) Via.refl e1 F1 (g := (mkF m 5 #[.val (.ref a0)] [(.ref a0), (.int (3 : Int32))])) rfl rfl (hb hby d15_5)
  refine OGo.by st2 ?_
  show OGo p e below _ (T2.setTop (mkF m 8 #[.val (.ref a0)] [(.int (3 : Int32)), (.int (3 : Int32))]))
  refine OGo.by (fun _ k => XS.icmpYes X2.here hx rfl (pc0 := 8) (pc' := 15) rfl (hb hby d15_8) rfl (teq (by decide : (3 : Int32) = (3 : Int32))).1 (by decide) (by decide) k) ?_
  show OGo p e below _ (T2.setTop (mkF m 15 #[.val (.ref a0)] []))
  refine OGo.by (fun _ k => XS.iconst X2.here hx rfl (hb hby d15_15) k) ?_
  show OGo p e below _ (T2.setTop (mkF m 16 #[.val (.ref a0)] [(.int (0 : Int32))]))
  obtain ⟨fs, hr, hrun, hended, hW, hsame⟩ := X2.leave (v := some (.int (0 : Int32))) (fun h => by rw [Bd.returns] at h; cases h)
  refine OGo.ret (retN X2 hx (t := .boolean) Bd.returns (by simp) (hb hby d15_16) hr) hrun hended ⟨_, _, rfl, ?_, ⟨_, rfl⟩, hW, hsame.mono (by decide) (by decide)⟩
  show Q_rm_hn3_3 Z a0 h0 n0 _ T2.heap _
  rw [e2]
  exact ⟨rfl, N0, rfl⟩
theorem ef_rm_tot3 (m : MethodId) (a0 : Addr) : entryFrame m #[(.ref a0)] 5 = mkF m 0 #[.val (.ref a0), .unset, .unset, .unset, .unset] [] := by first | (simp [entryFrame, mkF, argsToLocals, Value.category]; done) | rfl
def Q_rm_tot3 (Z : State) (a0 : Addr) (li : Addr) (t : Addr) (kt : ClassId) (c0 : Addr) (c1 : Addr) (c2 : Addr) (q0 : Int64) (q1 : Int64) (q2 : Int64) (h0 : Heap) (n0 : Nat) (v : Option Value) (h : Heap) (L : List Loc) : Prop := v = some (.long ((((0 : Int64) + q0) + q1) + q2)) ∧ Fr n0 L ∧ Keep h0 h []
set_option maxRecDepth 65536 in
set_option maxHeartbeats 40000000 in
theorem rm_tot3 (l : Launch) (Z : State) (av0 : Array Value) (hw : ∀ d ∈ tables_1, d.before av0 Z = true) (ws : List Jvm.Cond) (a0 : Addr) (li : Addr) (t : Addr) (kt : ClassId) (c0 : Addr) (c1 : Addr) (c2 : Addr) (q0 : Int64) (q1 : Int64) (q2 : Int64) (h0 : Heap) (n0 : Nat) (Z0 : n0 ≤ h0.size) (F0 : Fld Z h0 a0 "com/example/kept_inbox/keptinbox/Unread" "conversations" "Ljava/util/List;" (.ref li)) (l_0 : Exa Z h0 li "java/util/ImmutableCollections$ListN") (l_1 : Fld Z h0 li "java/util/ImmutableCollections$ListN" "elements" "[Ljava/lang/Object;" (.ref t)) (l_2 : Arv Z h0 t kt (.object "java/lang/Object") (3 : Int32) [(.ref c0), (.ref c1), (.ref c2)] .null) (Ec0 : Exa Z h0 c0 "com/example/kept_inbox/keptinbox/UnreadConversation") (Fc0 : Fld Z h0 c0 "com/example/kept_inbox/keptinbox/UnreadConversation" "waiting" "J" (.long q0)) (Ec1 : Exa Z h0 c1 "com/example/kept_inbox/keptinbox/UnreadConversation") (Fc1 : Fld Z h0 c1 "com/example/kept_inbox/keptinbox/UnreadConversation" "waiting" "J" (.long q1)) (Ec2 : Exa Z h0 c2 "com/example/kept_inbox/keptinbox/UnreadConversation") (Fc2 : Fld Z h0 c2 "com/example/kept_inbox/keptinbox/UnreadConversation" "waiting" "J" (.long q2)) :
    MetFree l (⟨"com/example/kept_inbox/keptinbox/Unread", "total", "()J"⟩ : MethodName) (head1 (Jvm.Cond.code (⟨"com/example/kept_inbox/keptinbox/Unread", "total", "()J"⟩ : MethodName) prog_7_method_2_code 5 (some .long) :: ws) ({ frames := 3, cells := 1, slots := 4, locals := 39 } : Room)) (fun a U => a = #[(.ref a0)] ∧ Z.Warmed39 U.vm ∧ U.heap = h0) (fun _ _ _ _ _ => True) (fun _ U o U' => ∃ v L, o = .returned v ∧ Q_rm_tot3 Z a0 li t kt c0 c1 c2 q0 q1 q2 h0 n0 v U'.heap L ∧ FrameEnd U o U' L ({ frames := 3, cells := 1, slots := 4, locals := 39 } : Room).cells ({ frames := 3, cells := 1, slots := 4, locals := 39 } : Room).slots) := by
  refine MetFree.of_bodySF (plainFor_of_name own_pn11) hisR ?_
  intro p e s m args below meth c s₁ Bd hml0 hP hK
  obtain ⟨rfl, hZ, hh⟩ := hP
  have hx := Bd.exec
  have hby := Bd.bytes
  have hml : c.maxLocals = 5 := hml0
  have hown : s.vm.findClass "com/example/kept_inbox/keptinbox/Unread" = some m.cls := findClass_of_methodNamed Bd.named
  have hnm := (name_of_methodNamed Bd.named Bd.method).1
  have X0 : Stand p l e ({ frames := 3, cells := 1, slots := 4, locals := 39 } : Room) s m #[(.ref a0)] below meth c s₁ [] 0 0 := Stand.of_body Bd
  have e0 : s₁.heap = h0 := by rw [← hh, Bd.state]; rfl
  have N0 := Fr.nil n0
  refine OGo.by (P := fun U' o => ∃ v L, o = .returned v ∧ Q_rm_tot3 Z a0 li t kt c0 c1 c2 q0 q1 q2 h0 n0 v U'.heap L ∧ FrameEnd s o U' L ({ frames := 3, cells := 1, slots := 4, locals := 39 } : Room).cells ({ frames := 3, cells := 1, slots := 4, locals := 39 } : Room).slots) (fun T_ k_ => castTop (ef_rm_tot3 m a0) k_) ?_
  show OGo p e below _ (s₁.setTop (mkF m 0 #[.val (.ref a0), .unset, .unset, .unset, .unset] []))
  refine OGo.by (fun _ k => XS.lconst X0.here hx rfl (hb hby d11_0) k) ?_
  show OGo p e below _ (s₁.setTop (mkF m 1 #[.val (.ref a0), .unset, .unset, .unset, .unset] [(.long (0 : Int64))]))
  refine OGo.by (fun _ k => XS.lstoreN X0.here hx rfl (hb hby d11_1) rfl (l' := #[.val (.ref a0), .val (.long (0 : Int64)), .second, .unset, .unset]) rfl k) ?_
  show OGo p e below _ (s₁.setTop (mkF m 2 #[.val (.ref a0), .val (.long (0 : Int64)), .second, .unset, .unset] []))
  refine OGo.by (fun _ k => XS.aloadN X0.here hx rfl (hb hby d11_2) rfl rfl k) ?_
  show OGo p e below _ (s₁.setTop (mkF m 3 #[.val (.ref a0), .val (.long (0 : Int64)), .second, .unset, .unset] [(.ref a0)]))
  obtain ⟨T1, X1, e1, st1⟩ := getF X0 hx hZ hown (host := "") (Or.inl (hw _ (List.mem_of_getElem? (i := 67) rfl))) Via.refl e0 F0 (g := (mkF m 3 #[.val (.ref a0), .val (.long (0 : Int64)), .second, .unset, .unset] [(.ref a0)])) rfl rfl (hb hby d11_3)
  refine OGo.by st1 ?_
  show OGo p e below _ (T1.setTop (mkF m 6 #[.val (.ref a0), .val (.long (0 : Int64)), .second, .unset, .unset] [(.ref li)]))
  obtain ⟨cq2, kq2, q2a, q2b, q2c⟩ := isOf hZ e1 l_0
  obtain ⟨_, _, ⟨T2, L2, k2, n2⟩, -, X2, ⟨Lc2, hQ2, l2, y2, z2⟩, st2⟩ := X1.interfaceBack hx (xi := (⟨"java/util/List", "iterator", "()Ljava/util/Iterator;"⟩ : MethodName)) (y := (⟨"java/util/ImmutableCollections$AbstractImmutableList", "iterator", "()Ljava/util/Iterator;"⟩ : MethodName)) hown (mvT hZ (hw _ (List.mem_of_getElem? (i := 74) rfl))) (mvT hZ (hw _ (List.mem_of_getElem? (i := 75) rfl))) (mvT hZ (hw _ (List.mem_of_getElem? (i := 76) rfl))) (mvT hZ (hw _ (List.mem_of_getElem? (i := 77) rfl))) (mvT hZ (hw _ (List.mem_of_getElem? (i := 78) rfl))) (mvT hZ (hw _ (List.mem_of_getElem? (i := 79) rfl))) (mvT hZ (hw _ (List.mem_of_getElem? (i := 80) rfl))) (mvT hZ (hw _ (List.mem_of_getElem? (i := 81) rfl))) (by decide) (backOf (W := 0) (rm_itr3 l Z av0 hw [] li t kt c0 c1 c2 h0 n0 Z0 l_0 l_1 l_2) hZ (hw _ (List.mem_of_getElem? (i := 83) rfl)) (hw _ (List.mem_of_getElem? (i := 82) rfl)) (by decide) (by decide)) q2a q2b q2c (g := (mkF m 6 #[.val (.ref a0), .val (.long (0 : Int64)), .second, .unset, .unset] [(.ref li)])) rfl (by rw [hml]; rfl) (Steps.refl _) (argsL := []) (rest := []) (lenOf own_pd17 rfl) rfl (by show 2 * 0 + _ ≤ _; exact Nat.le_of_eq rfl) (hb hby d11_6) (fun _ _ => ⟨rfl, e1, (by decide : 0 + 1 ≤ _), (by decide : 0 + 4 ≤ _)⟩)
  dsimp only [Pt.U, Pt.locs, Pt.cells, Pt.slots] at X2 l2 y2 z2 st2 hQ2
  subst l2 y2 z2
  obtain ⟨b_2, rfl, N2q, Kc2, G2_0, G2_1, G2_2, G2_3, G2_4, G2_5⟩ := hQ2
  have N2 := Fr.app N0 N2q
  have ne_a0_b_2 : a0 ≠ b_2 := Nat.ne_of_lt (Nat.lt_of_lt_of_le F0.lt G2_0)
  have ne_li_b_2 : li ≠ b_2 := Nat.ne_of_lt (Nat.lt_of_lt_of_le l_0.lt G2_0)
  have ne_t_b_2 : t ≠ b_2 := Nat.ne_of_lt (Nat.lt_of_lt_of_le l_2.lt G2_0)
  have ne_c0_b_2 : c0 ≠ b_2 := Nat.ne_of_lt (Nat.lt_of_lt_of_le Ec0.lt G2_0)
  have ne_c1_b_2 : c1 ≠ b_2 := Nat.ne_of_lt (Nat.lt_of_lt_of_le Ec1.lt G2_0)
  have ne_c2_b_2 : c2 ≠ b_2 := Nat.ne_of_lt (Nat.lt_of_lt_of_le Ec2.lt G2_0)
  have g_b_2 : n0 ≤ b_2 := Nat.le_trans Z0 G2_0
  have sz_b_2 : h0.size ≤ b_2 := Nat.le_trans (Nat.le_refl _) G2_0
  have K2 : Keep h0 T2.heap [] := ((Keep.refl h0 [])).trans Kc2 (all0 (P := fun x => x ∈ ([] : List Addr) ∨ h0.size ≤ x))
  refine OGo.of st2 ?_
  show OGo p e below _ (T2.setTop (mkF m 11 #[.val (.ref a0), .val (.long (0 : Int64)), .second, .unset, .unset] [(.ref b_2)]))
  refine OGo.by (fun _ k => XS.astoreN X2.here hx rfl (hb hby d11_11) rfl rfl (l' := #[.val (.ref a0), .val (.long (0 : Int64)), .second, .val (.ref b_2), .unset]) rfl k) ?_
  show OGo p e below _ (T2.setTop (mkF m 12 #[.val (.ref a0), .val (.long (0 : Int64)), .second, .val (.ref b_2), .unset] []))
  refine OGo.by (fun _ k => XS.aloadN X2.here hx rfl (hb hby d11_12) rfl rfl k) ?_
  show OGo p e below _ (T2.setTop (mkF m 13 #[.val (.ref a0), .val (.long (0 : Int64)), .second, .val (.ref b_2), .unset] [(.ref b_2)]))
  obtain ⟨cq3, kq3, q3a, q3b, q3c⟩ := isOf hZ rfl G2_2
  obtain ⟨_, _, ⟨T3, L3, k3, n3⟩, -, X3, ⟨Lc3, hQ3, l3, y3, z3⟩, st3⟩ := X2.interfaceBack hx (xi := (⟨"java/util/Iterator", "hasNext", "()Z"⟩ : MethodName)) (y := (⟨"java/util/ImmutableCollections$ListItr", "hasNext", "()Z"⟩ : MethodName)) hown (mvT hZ (hw _ (List.mem_of_getElem? (i := 109) rfl))) (mvT hZ (hw _ (List.mem_of_getElem? (i := 110) rfl))) (mvT hZ (hw _ (List.mem_of_getElem? (i := 111) rfl))) (mvT hZ (hw _ (List.mem_of_getElem? (i := 112) rfl))) (mvT hZ (hw _ (List.mem_of_getElem? (i := 113) rfl))) (mvT hZ (hw _ (List.mem_of_getElem? (i := 114) rfl))) (mvT hZ (hw _ (List.mem_of_getElem? (i := 115) rfl))) (mvT hZ (hw _ (List.mem_of_getElem? (i := 116) rfl))) (by decide) (backOf (W := 0) (rm_hn3_0 l Z av0 hw [] b_2 T2.heap n0 (Nat.le_trans Z0 K2.1) G2_4 G2_5) hZ (hw _ (List.mem_of_getElem? (i := 117) rfl)) (hw _ (List.mem_of_getElem? (i := 86) rfl)) (by decide) (by decide)) q3a q3b q3c (g := (mkF m 13 #[.val (.ref a0), .val (.long (0 : Int64)), .second, .val (.ref b_2), .unset] [(.ref b_2)])) rfl (by rw [hml]; rfl) (Steps.refl _) (argsL := []) (rest := []) (lenOf own_pd6 rfl) rfl (by show 2 * 0 + _ ≤ _; exact Nat.le_of_eq rfl) (hb hby d11_13) (fun _ _ => ⟨rfl, rfl, (by decide : 1 + 0 ≤ _), (by decide : 4 + 0 ≤ _)⟩)
  dsimp only [Pt.U, Pt.locs, Pt.cells, Pt.slots] at X3 l3 y3 z3 st3 hQ3
  subst l3 y3 z3
  obtain ⟨rfl, N3q, e3⟩ := hQ3
  have N3 := Fr.app N2 N3q
  refine OGo.of st3 ?_
  show OGo p e below _ (T3.setTop (mkF m 18 #[.val (.ref a0), .val (.long (0 : Int64)), .second, .val (.ref b_2), .unset] [(.int (1 : Int32))]))
  refine OGo.by (fun _ k => XS.ifNo X3.here hx rfl (hb hby d11_18) rfl ((if0 _ _).trans (feq (by decide : ¬ ((1 : Int32) = (0 : Int32)))).1) k) ?_
  show OGo p e below _ (T3.setTop (mkF m 21 #[.val (.ref a0), .val (.long (0 : Int64)), .second, .val (.ref b_2), .unset] []))
  refine OGo.by (fun _ k => XS.aloadN X3.here hx rfl (hb hby d11_21) rfl rfl k) ?_
  show OGo p e below _ (T3.setTop (mkF m 22 #[.val (.ref a0), .val (.long (0 : Int64)), .second, .val (.ref b_2), .unset] [(.ref b_2)]))
  have f5 : Exa Z T2.heap li "java/util/ImmutableCollections$ListN" := (l_0.keep Kc2)
  have f6 : Fld Z T2.heap li "java/util/ImmutableCollections$ListN" "elements" "[Ljava/lang/Object;" (.ref t) := (l_1.keep Kc2 nin0)
  have f7 : Arv Z T2.heap t kt (.object "java/lang/Object") (3 : Int32) [(.ref c0), (.ref c1), (.ref c2)] .null := (l_2.keep Kc2 nin0)
  obtain ⟨cq4, kq4, q4a, q4b, q4c⟩ := isOf hZ e3 G2_2
  obtain ⟨_, _, ⟨T4, L4, k4, n4⟩, -, X4, ⟨Lc4, hQ4, l4, y4, z4⟩, st4⟩ := X3.interfaceBack hx (xi := (⟨"java/util/Iterator", "next", "()Ljava/lang/Object;"⟩ : MethodName)) (y := (⟨"java/util/ImmutableCollections$ListItr", "next", "()Ljava/lang/Object;"⟩ : MethodName)) hown (mvT hZ (hw _ (List.mem_of_getElem? (i := 234) rfl))) (mvT hZ (hw _ (List.mem_of_getElem? (i := 235) rfl))) (mvT hZ (hw _ (List.mem_of_getElem? (i := 236) rfl))) (mvT hZ (hw _ (List.mem_of_getElem? (i := 237) rfl))) (mvT hZ (hw _ (List.mem_of_getElem? (i := 238) rfl))) (mvT hZ (hw _ (List.mem_of_getElem? (i := 239) rfl))) (mvT hZ (hw _ (List.mem_of_getElem? (i := 240) rfl))) (mvT hZ (hw _ (List.mem_of_getElem? (i := 116) rfl))) (by decide) (backOfWith (W := 0) (rm_nx3_0 l Z av0 hw [] b_2 li t kt c0 c1 c2 T2.heap n0 (Nat.le_trans Z0 K2.1) G2_2 G2_3 G2_4 G2_5 g_b_2 f5 f6 f7) hZ (hw _ (List.mem_of_getElem? (i := 241) rfl)) (hw _ (List.mem_of_getElem? (i := 86) rfl)) (by decide) (by decide)) q4a q4b q4c (g := (mkF m 22 #[.val (.ref a0), .val (.long (0 : Int64)), .second, .val (.ref b_2), .unset] [(.ref b_2)])) rfl (by rw [hml]; rfl) (Steps.refl _) (argsL := []) (rest := []) (lenOf own_pd19 rfl) rfl (by show 2 * 0 + _ ≤ _; exact Nat.le_of_eq rfl) (hb hby d11_22) (fun _ _ => ⟨rfl, e3, (by decide : 1 + 0 ≤ _), (by decide : 4 + 0 ≤ _)⟩)
  dsimp only [Pt.U, Pt.locs, Pt.cells, Pt.slots] at X4 l4 y4 z4 st4 hQ4
  subst l4 y4 z4
  obtain ⟨rfl, N4q, Kc4, G4_0, G4_1, G4_2, G4_3⟩ := hQ4
  have N4 := Fr.app N3 N4q
  have K4 : Keep h0 T4.heap [] := (K2).trans Kc4 (allS (P := fun x => x ∈ ([] : List Addr) ∨ h0.size ≤ x) (Or.inr sz_b_2) (all0 (P := fun x => x ∈ ([] : List Addr) ∨ h0.size ≤ x)))
  refine OGo.of st4 ?_
  show OGo p e below _ (T4.setTop (mkF m 27 #[.val (.ref a0), .val (.long (0 : Int64)), .second, .val (.ref b_2), .unset] [(.ref c0)]))
  have f8 : Exa Z T4.heap c0 "com/example/kept_inbox/keptinbox/UnreadConversation" := ((Ec0.keep Kc2).keep Kc4)
  obtain ⟨T9, X9, e9, st9⟩ := castY X4 hx hZ hown (hw _ (List.mem_of_getElem? (i := 250) rfl)) rfl (Ins.self f8) (g := (mkF m 27 #[.val (.ref a0), .val (.long (0 : Int64)), .second, .val (.ref b_2), .unset] [(.ref c0)])) rfl rfl (hb hby d11_27)
  refine OGo.by st9 ?_
  show OGo p e below _ (T9.setTop (mkF m 30 #[.val (.ref a0), .val (.long (0 : Int64)), .second, .val (.ref b_2), .unset] [(.ref c0)]))
  refine OGo.by (fun _ k => XS.astore X9.here hx rfl (hb hby d11_30) rfl rfl (l' := #[.val (.ref a0), .val (.long (0 : Int64)), .second, .val (.ref b_2), .val (.ref c0)]) rfl k) ?_
  show OGo p e below _ (T9.setTop (mkF m 32 #[.val (.ref a0), .val (.long (0 : Int64)), .second, .val (.ref b_2), .val (.ref c0)] []))
  refine OGo.by (fun _ k => XS.lloadN X9.here hx rfl (hb hby d11_32) rfl k) ?_
  show OGo p e below _ (T9.setTop (mkF m 33 #[.val (.ref a0), .val (.long (0 : Int64)), .second, .val (.ref b_2), .val (.ref c0)] [(.long (0 : Int64))]))
  refine OGo.by (fun _ k => XS.aload X9.here hx rfl (hb hby d11_33) rfl rfl k) ?_
  show OGo p e below _ (T9.setTop (mkF m 35 #[.val (.ref a0), .val (.long (0 : Int64)), .second, .val (.ref b_2), .val (.ref c0)] [(.ref c0), (.long (0 : Int64))]))
  have f11 : Fld Z T4.heap c0 "com/example/kept_inbox/keptinbox/UnreadConversation" "waiting" "J" (.long q0) := ((Fc0.keep Kc2 nin0).keep Kc4 (ninS ne_c0_b_2 nin0))
  obtain ⟨cq10, kq10, q10a, q10b, q10c⟩ := isOf hZ e9 f8
  obtain ⟨_, _, ⟨T10, L10, k10, n10⟩, -, X10, ⟨Lc10, hQ10, l10, y10, z10⟩, st10⟩ := X9.virtualBack hx (y := (⟨"com/example/kept_inbox/keptinbox/UnreadConversation", "waiting", "()J"⟩ : MethodName)) (z := (⟨"com/example/kept_inbox/keptinbox/UnreadConversation", "waiting", "()J"⟩ : MethodName)) hown (mvT hZ (hw _ (List.mem_of_getElem? (i := 252) rfl))) (mvT hZ (hw _ (List.mem_of_getElem? (i := 253) rfl))) (notFace_of_selects (args := #[]) (mvT hZ (hw _ (List.mem_of_getElem? (i := 255) rfl)))) (mvT hZ (hw _ (List.mem_of_getElem? (i := 255) rfl))) (mvT hZ (hw _ (List.mem_of_getElem? (i := 254) rfl))) (by decide) (backOf (W := 2) (rm34 l Z av0 hw [] c0 q0 T4.heap n0 (Nat.le_trans Z0 K4.1) f11) hZ (hw _ (List.mem_of_getElem? (i := 256) rfl)) (hw _ (List.mem_of_getElem? (i := 120) rfl)) (by decide) (by decide)) q10a q10c (g := (mkF m 35 #[.val (.ref a0), .val (.long (0 : Int64)), .second, .val (.ref b_2), .val (.ref c0)] [(.ref c0), (.long (0 : Int64))])) rfl (by rw [hml]; rfl) (Steps.refl _) (argsL := []) (rest := [(.long (0 : Int64))]) (lenOf own_pd20 rfl) rfl (by show 2 * 0 + _ ≤ _; exact Nat.le_of_eq rfl) (hb hby d11_35) (fun _ _ => ⟨rfl, e9, (by decide : 1 + 0 ≤ _), (by decide : 4 + 0 ≤ _)⟩)
  dsimp only [Pt.U, Pt.locs, Pt.cells, Pt.slots] at X10 l10 y10 z10 st10 hQ10
  subst l10 y10 z10
  obtain ⟨rfl, N10q, e10⟩ := hQ10
  have N10 := Fr.app N4 N10q
  refine OGo.of st10 ?_
  show OGo p e below _ (T10.setTop (mkF m 38 #[.val (.ref a0), .val (.long (0 : Int64)), .second, .val (.ref b_2), .val (.ref c0)] [(.long q0), (.long (0 : Int64))]))
  refine OGo.by (fun _ k => XS.ladd X10.here hx rfl (hb hby d11_38) rfl k) ?_
  show OGo p e below _ (T10.setTop (mkF m 39 #[.val (.ref a0), .val (.long (0 : Int64)), .second, .val (.ref b_2), .val (.ref c0)] [(.long ((0 : Int64) + q0))]))
  refine OGo.by (fun _ k => XS.lstoreN X10.here hx rfl (hb hby d11_39) rfl (l' := #[.val (.ref a0), .val (.long ((0 : Int64) + q0)), .second, .val (.ref b_2), .val (.ref c0)]) rfl k) ?_
  show OGo p e below _ (T10.setTop (mkF m 40 #[.val (.ref a0), .val (.long ((0 : Int64) + q0)), .second, .val (.ref b_2), .val (.ref c0)] []))
  refine OGo.by (fun _ k => XS.goto X10.here hx rfl (pc0 := 40) (pc' := 12) rfl (hb hby d11_40) (by decide) (by decide) k) ?_
  show OGo p e below _ (T10.setTop (mkF m 12 #[.val (.ref a0), .val (.long ((0 : Int64) + q0)), .second, .val (.ref b_2), .val (.ref c0)] []))
  refine OGo.by (fun _ k => XS.aloadN X10.here hx rfl (hb hby d11_12) rfl rfl k) ?_
  show OGo p e below _ (T10.setTop (mkF m 13 #[.val (.ref a0), .val (.long ((0 : Int64) + q0)), .second, .val (.ref b_2), .val (.ref c0)] [(.ref b_2)]))
  obtain ⟨cq12, kq12, q12a, q12b, q12c⟩ := isOf hZ e10 G4_0
  obtain ⟨_, _, ⟨T12, L12, k12, n12⟩, -, X12, ⟨Lc12, hQ12, l12, y12, z12⟩, st12⟩ := X10.interfaceBack hx (xi := (⟨"java/util/Iterator", "hasNext", "()Z"⟩ : MethodName)) (y := (⟨"java/util/ImmutableCollections$ListItr", "hasNext", "()Z"⟩ : MethodName)) hown (mvT hZ (hw _ (List.mem_of_getElem? (i := 109) rfl))) (mvT hZ (hw _ (List.mem_of_getElem? (i := 110) rfl))) (mvT hZ (hw _ (List.mem_of_getElem? (i := 111) rfl))) (mvT hZ (hw _ (List.mem_of_getElem? (i := 112) rfl))) (mvT hZ (hw _ (List.mem_of_getElem? (i := 113) rfl))) (mvT hZ (hw _ (List.mem_of_getElem? (i := 114) rfl))) (mvT hZ (hw _ (List.mem_of_getElem? (i := 115) rfl))) (mvT hZ (hw _ (List.mem_of_getElem? (i := 116) rfl))) (by decide) (backOf (W := 0) (rm_hn3_1 l Z av0 hw [] b_2 T4.heap n0 (Nat.le_trans Z0 K4.1) G4_2 G4_3) hZ (hw _ (List.mem_of_getElem? (i := 117) rfl)) (hw _ (List.mem_of_getElem? (i := 86) rfl)) (by decide) (by decide)) q12a q12b q12c (g := (mkF m 13 #[.val (.ref a0), .val (.long ((0 : Int64) + q0)), .second, .val (.ref b_2), .val (.ref c0)] [(.ref b_2)])) rfl (by rw [hml]; rfl) (Steps.refl _) (argsL := []) (rest := []) (lenOf own_pd6 rfl) rfl (by show 2 * 0 + _ ≤ _; exact Nat.le_of_eq rfl) (hb hby d11_13) (fun _ _ => ⟨rfl, e10, (by decide : 1 + 0 ≤ _), (by decide : 4 + 0 ≤ _)⟩)
  dsimp only [Pt.U, Pt.locs, Pt.cells, Pt.slots] at X12 l12 y12 z12 st12 hQ12
  subst l12 y12 z12
  obtain ⟨rfl, N12q, e12⟩ := hQ12
  have N12 := Fr.app N10 N12q
  refine OGo.of st12 ?_
  show OGo p e below _ (T12.setTop (mkF m 18 #[.val (.ref a0), .val (.long ((0 : Int64) + q0)), .second, .val (.ref b_2), .val (.ref c0)] [(.int (1 : Int32))]))
  refine OGo.by (fun _ k => XS.ifNo X12.here hx rfl (hb hby d11_18) rfl ((if0 _ _).trans (feq (by decide : ¬ ((1 : Int32) = (0 : Int32)))).1) k) ?_
  show OGo p e below _ (T12.setTop (mkF m 21 #[.val (.ref a0), .val (.long ((0 : Int64) + q0)), .second, .val (.ref b_2), .val (.ref c0)] []))
  refine OGo.by (fun _ k => XS.aloadN X12.here hx rfl (hb hby d11_21) rfl rfl k) ?_
  show OGo p e below _ (T12.setTop (mkF m 22 #[.val (.ref a0), .val (.long ((0 : Int64) + q0)), .second, .val (.ref b_2), .val (.ref c0)] [(.ref b_2)]))
  have f14 : Exa Z T4.heap li "java/util/ImmutableCollections$ListN" := (f5.keep Kc4)
  have f15 : Fld Z T4.heap li "java/util/ImmutableCollections$ListN" "elements" "[Ljava/lang/Object;" (.ref t) := (f6.keep Kc4 (ninS ne_li_b_2 nin0))
  have f16 : Arv Z T4.heap t kt (.object "java/lang/Object") (3 : Int32) [(.ref c0), (.ref c1), (.ref c2)] .null := (f7.keep Kc4 (ninS ne_t_b_2 nin0))
  obtain ⟨cq13, kq13, q13a, q13b, q13c⟩ := isOf hZ e12 G4_0
  obtain ⟨_, _, ⟨T13, L13, k13, n13⟩, -, X13, ⟨Lc13, hQ13, l13, y13, z13⟩, st13⟩ := X12.interfaceBack hx (xi := (⟨"java/util/Iterator", "next", "()Ljava/lang/Object;"⟩ : MethodName)) (y := (⟨"java/util/ImmutableCollections$ListItr", "next", "()Ljava/lang/Object;"⟩ : MethodName)) hown (mvT hZ (hw _ (List.mem_of_getElem? (i := 234) rfl))) (mvT hZ (hw _ (List.mem_of_getElem? (i := 235) rfl))) (mvT hZ (hw _ (List.mem_of_getElem? (i := 236) rfl))) (mvT hZ (hw _ (List.mem_of_getElem? (i := 237) rfl))) (mvT hZ (hw _ (List.mem_of_getElem? (i := 238) rfl))) (mvT hZ (hw _ (List.mem_of_getElem? (i := 239) rfl))) (mvT hZ (hw _ (List.mem_of_getElem? (i := 240) rfl))) (mvT hZ (hw _ (List.mem_of_getElem? (i := 116) rfl))) (by decide) (backOfWith (W := 0) (rm_nx3_1 l Z av0 hw [] b_2 li t kt c0 c1 c2 T4.heap n0 (Nat.le_trans Z0 K4.1) G4_0 G4_1 G4_2 G4_3 g_b_2 f14 f15 f16) hZ (hw _ (List.mem_of_getElem? (i := 241) rfl)) (hw _ (List.mem_of_getElem? (i := 86) rfl)) (by decide) (by decide)) q13a q13b q13c (g := (mkF m 22 #[.val (.ref a0), .val (.long ((0 : Int64) + q0)), .second, .val (.ref b_2), .val (.ref c0)] [(.ref b_2)])) rfl (by rw [hml]; rfl) (Steps.refl _) (argsL := []) (rest := []) (lenOf own_pd19 rfl) rfl (by show 2 * 0 + _ ≤ _; exact Nat.le_of_eq rfl) (hb hby d11_22) (fun _ _ => ⟨rfl, e12, (by decide : 1 + 0 ≤ _), (by decide : 4 + 0 ≤ _)⟩)
  dsimp only [Pt.U, Pt.locs, Pt.cells, Pt.slots] at X13 l13 y13 z13 st13 hQ13
  subst l13 y13 z13
  obtain ⟨rfl, N13q, Kc13, G13_0, G13_1, G13_2, G13_3⟩ := hQ13
  have N13 := Fr.app N12 N13q
  have K13 : Keep h0 T13.heap [] := (K4).trans Kc13 (allS (P := fun x => x ∈ ([] : List Addr) ∨ h0.size ≤ x) (Or.inr sz_b_2) (all0 (P := fun x => x ∈ ([] : List Addr) ∨ h0.size ≤ x)))
  refine OGo.of st13 ?_
  show OGo p e below _ (T13.setTop (mkF m 27 #[.val (.ref a0), .val (.long ((0 : Int64) + q0)), .second, .val (.ref b_2), .val (.ref c0)] [(.ref c1)]))
  have f17 : Exa Z T13.heap c1 "com/example/kept_inbox/keptinbox/UnreadConversation" := (((Ec1.keep Kc2).keep Kc4).keep Kc13)
  obtain ⟨T18, X18, e18, st18⟩ := castY X13 hx hZ hown (hw _ (List.mem_of_getElem? (i := 250) rfl)) rfl (Ins.self f17) (g := (mkF m 27 #[.val (.ref a0), .val (.long ((0 : Int64) + q0)), .second, .val (.ref b_2), .val (.ref c0)] [(.ref c1)])) rfl rfl (hb hby d11_27)
  refine OGo.by st18 ?_
  show OGo p e below _ (T18.setTop (mkF m 30 #[.val (.ref a0), .val (.long ((0 : Int64) + q0)), .second, .val (.ref b_2), .val (.ref c0)] [(.ref c1)]))
  refine OGo.by (fun _ k => XS.astore X18.here hx rfl (hb hby d11_30) rfl rfl (l' := #[.val (.ref a0), .val (.long ((0 : Int64) + q0)), .second, .val (.ref b_2), .val (.ref c1)]) rfl k) ?_
  show OGo p e below _ (T18.setTop (mkF m 32 #[.val (.ref a0), .val (.long ((0 : Int64) + q0)), .second, .val (.ref b_2), .val (.ref c1)] []))
  refine OGo.by (fun _ k => XS.lloadN X18.here hx rfl (hb hby d11_32) rfl k) ?_
  show OGo p e below _ (T18.setTop (mkF m 33 #[.val (.ref a0), .val (.long ((0 : Int64) + q0)), .second, .val (.ref b_2), .val (.ref c1)] [(.long ((0 : Int64) + q0))]))
  refine OGo.by (fun _ k => XS.aload X18.here hx rfl (hb hby d11_33) rfl rfl k) ?_
  show OGo p e below _ (T18.setTop (mkF m 35 #[.val (.ref a0), .val (.long ((0 : Int64) + q0)), .second, .val (.ref b_2), .val (.ref c1)] [(.ref c1), (.long ((0 : Int64) + q0))]))
  have f20 : Fld Z T13.heap c1 "com/example/kept_inbox/keptinbox/UnreadConversation" "waiting" "J" (.long q1) := (((Fc1.keep Kc2 nin0).keep Kc4 (ninS ne_c1_b_2 nin0)).keep Kc13 (ninS ne_c1_b_2 nin0))
  obtain ⟨cq19, kq19, q19a, q19b, q19c⟩ := isOf hZ e18 f17
  obtain ⟨_, _, ⟨T19, L19, k19, n19⟩, -, X19, ⟨Lc19, hQ19, l19, y19, z19⟩, st19⟩ := X18.virtualBack hx (y := (⟨"com/example/kept_inbox/keptinbox/UnreadConversation", "waiting", "()J"⟩ : MethodName)) (z := (⟨"com/example/kept_inbox/keptinbox/UnreadConversation", "waiting", "()J"⟩ : MethodName)) hown (mvT hZ (hw _ (List.mem_of_getElem? (i := 252) rfl))) (mvT hZ (hw _ (List.mem_of_getElem? (i := 253) rfl))) (notFace_of_selects (args := #[]) (mvT hZ (hw _ (List.mem_of_getElem? (i := 255) rfl)))) (mvT hZ (hw _ (List.mem_of_getElem? (i := 255) rfl))) (mvT hZ (hw _ (List.mem_of_getElem? (i := 254) rfl))) (by decide) (backOf (W := 2) (rm34 l Z av0 hw [] c1 q1 T13.heap n0 (Nat.le_trans Z0 K13.1) f20) hZ (hw _ (List.mem_of_getElem? (i := 256) rfl)) (hw _ (List.mem_of_getElem? (i := 120) rfl)) (by decide) (by decide)) q19a q19c (g := (mkF m 35 #[.val (.ref a0), .val (.long ((0 : Int64) + q0)), .second, .val (.ref b_2), .val (.ref c1)] [(.ref c1), (.long ((0 : Int64) + q0))])) rfl (by rw [hml]; rfl) (Steps.refl _) (argsL := []) (rest := [(.long ((0 : Int64) + q0))]) (lenOf own_pd20 rfl) rfl (by show 2 * 0 + _ ≤ _; exact Nat.le_of_eq rfl) (hb hby d11_35) (fun _ _ => ⟨rfl, e18, (by decide : 1 + 0 ≤ _), (by decide : 4 + 0 ≤ _)⟩)
  dsimp only [Pt.U, Pt.locs, Pt.cells, Pt.slots] at X19 l19 y19 z19 st19 hQ19
  subst l19 y19 z19
  obtain ⟨rfl, N19q, e19⟩ := hQ19
  have N19 := Fr.app N13 N19q
  refine OGo.of st19 ?_
  show OGo p e below _ (T19.setTop (mkF m 38 #[.val (.ref a0), .val (.long ((0 : Int64) + q0)), .second, .val (.ref b_2), .val (.ref c1)] [(.long q1), (.long ((0 : Int64) + q0))]))
  refine OGo.by (fun _ k => XS.ladd X19.here hx rfl (hb hby d11_38) rfl k) ?_
  show OGo p e below _ (T19.setTop (mkF m 39 #[.val (.ref a0), .val (.long ((0 : Int64) + q0)), .second, .val (.ref b_2), .val (.ref c1)] [(.long (((0 : Int64) + q0) + q1))]))
  refine OGo.by (fun _ k => XS.lstoreN X19.here hx rfl (hb hby d11_39) rfl (l' := #[.val (.ref a0), .val (.long (((0 : Int64) + q0) + q1)), .second, .val (.ref b_2), .val (.ref c1)]) rfl k) ?_
  show OGo p e below _ (T19.setTop (mkF m 40 #[.val (.ref a0), .val (.long (((0 : Int64) + q0) + q1)), .second, .val (.ref b_2), .val (.ref c1)] []))
  refine OGo.by (fun _ k => XS.goto X19.here hx rfl (pc0 := 40) (pc' := 12) rfl (hb hby d11_40) (by decide) (by decide) k) ?_
  show OGo p e below _ (T19.setTop (mkF m 12 #[.val (.ref a0), .val (.long (((0 : Int64) + q0) + q1)), .second, .val (.ref b_2), .val (.ref c1)] []))
  refine OGo.by (fun _ k => XS.aloadN X19.here hx rfl (hb hby d11_12) rfl rfl k) ?_
  show OGo p e below _ (T19.setTop (mkF m 13 #[.val (.ref a0), .val (.long (((0 : Int64) + q0) + q1)), .second, .val (.ref b_2), .val (.ref c1)] [(.ref b_2)]))
  obtain ⟨cq21, kq21, q21a, q21b, q21c⟩ := isOf hZ e19 G13_0
  obtain ⟨_, _, ⟨T21, L21, k21, n21⟩, -, X21, ⟨Lc21, hQ21, l21, y21, z21⟩, st21⟩ := X19.interfaceBack hx (xi := (⟨"java/util/Iterator", "hasNext", "()Z"⟩ : MethodName)) (y := (⟨"java/util/ImmutableCollections$ListItr", "hasNext", "()Z"⟩ : MethodName)) hown (mvT hZ (hw _ (List.mem_of_getElem? (i := 109) rfl))) (mvT hZ (hw _ (List.mem_of_getElem? (i := 110) rfl))) (mvT hZ (hw _ (List.mem_of_getElem? (i := 111) rfl))) (mvT hZ (hw _ (List.mem_of_getElem? (i := 112) rfl))) (mvT hZ (hw _ (List.mem_of_getElem? (i := 113) rfl))) (mvT hZ (hw _ (List.mem_of_getElem? (i := 114) rfl))) (mvT hZ (hw _ (List.mem_of_getElem? (i := 115) rfl))) (mvT hZ (hw _ (List.mem_of_getElem? (i := 116) rfl))) (by decide) (backOf (W := 0) (rm_hn3_2 l Z av0 hw [] b_2 T13.heap n0 (Nat.le_trans Z0 K13.1) G13_2 G13_3) hZ (hw _ (List.mem_of_getElem? (i := 117) rfl)) (hw _ (List.mem_of_getElem? (i := 86) rfl)) (by decide) (by decide)) q21a q21b q21c (g := (mkF m 13 #[.val (.ref a0), .val (.long (((0 : Int64) + q0) + q1)), .second, .val (.ref b_2), .val (.ref c1)] [(.ref b_2)])) rfl (by rw [hml]; rfl) (Steps.refl _) (argsL := []) (rest := []) (lenOf own_pd6 rfl) rfl (by show 2 * 0 + _ ≤ _; exact Nat.le_of_eq rfl) (hb hby d11_13) (fun _ _ => ⟨rfl, e19, (by decide : 1 + 0 ≤ _), (by decide : 4 + 0 ≤ _)⟩)
  dsimp only [Pt.U, Pt.locs, Pt.cells, Pt.slots] at X21 l21 y21 z21 st21 hQ21
  subst l21 y21 z21
  obtain ⟨rfl, N21q, e21⟩ := hQ21
  have N21 := Fr.app N19 N21q
  refine OGo.of st21 ?_
  show OGo p e below _ (T21.setTop (mkF m 18 #[.val (.ref a0), .val (.long (((0 : Int64) + q0) + q1)), .second, .val (.ref b_2), .val (.ref c1)] [(.int (1 : Int32))]))
  refine OGo.by (fun _ k => XS.ifNo X21.here hx rfl (hb hby d11_18) rfl ((if0 _ _).trans (feq (by decide : ¬ ((1 : Int32) = (0 : Int32)))).1) k) ?_
  show OGo p e below _ (T21.setTop (mkF m 21 #[.val (.ref a0), .val (.long (((0 : Int64) + q0) + q1)), .second, .val (.ref b_2), .val (.ref c1)] []))
  refine OGo.by (fun _ k => XS.aloadN X21.here hx rfl (hb hby d11_21) rfl rfl k) ?_
  show OGo p e below _ (T21.setTop (mkF m 22 #[.val (.ref a0), .val (.long (((0 : Int64) + q0) + q1)), .second, .val (.ref b_2), .val (.ref c1)] [(.ref b_2)]))
  have f23 : Exa Z T13.heap li "java/util/ImmutableCollections$ListN" := (f14.keep Kc13)
  have f24 : Fld Z T13.heap li "java/util/ImmutableCollections$ListN" "elements" "[Ljava/lang/Object;" (.ref t) := (f15.keep Kc13 (ninS ne_li_b_2 nin0))
  have f25 : Arv Z T13.heap t kt (.object "java/lang/Object") (3 : Int32) [(.ref c0), (.ref c1), (.ref c2)] .null := (f16.keep Kc13 (ninS ne_t_b_2 nin0))
  obtain ⟨cq22, kq22, q22a, q22b, q22c⟩ := isOf hZ e21 G13_0
  obtain ⟨_, _, ⟨T22, L22, k22, n22⟩, -, X22, ⟨Lc22, hQ22, l22, y22, z22⟩, st22⟩ := X21.interfaceBack hx (xi := (⟨"java/util/Iterator", "next", "()Ljava/lang/Object;"⟩ : MethodName)) (y := (⟨"java/util/ImmutableCollections$ListItr", "next", "()Ljava/lang/Object;"⟩ : MethodName)) hown (mvT hZ (hw _ (List.mem_of_getElem? (i := 234) rfl))) (mvT hZ (hw _ (List.mem_of_getElem? (i := 235) rfl))) (mvT hZ (hw _ (List.mem_of_getElem? (i := 236) rfl))) (mvT hZ (hw _ (List.mem_of_getElem? (i := 237) rfl))) (mvT hZ (hw _ (List.mem_of_getElem? (i := 238) rfl))) (mvT hZ (hw _ (List.mem_of_getElem? (i := 239) rfl))) (mvT hZ (hw _ (List.mem_of_getElem? (i := 240) rfl))) (mvT hZ (hw _ (List.mem_of_getElem? (i := 116) rfl))) (by decide) (backOfWith (W := 0) (rm_nx3_2 l Z av0 hw [] b_2 li t kt c0 c1 c2 T13.heap n0 (Nat.le_trans Z0 K13.1) G13_0 G13_1 G13_2 G13_3 g_b_2 f23 f24 f25) hZ (hw _ (List.mem_of_getElem? (i := 241) rfl)) (hw _ (List.mem_of_getElem? (i := 86) rfl)) (by decide) (by decide)) q22a q22b q22c (g := (mkF m 22 #[.val (.ref a0), .val (.long (((0 : Int64) + q0) + q1)), .second, .val (.ref b_2), .val (.ref c1)] [(.ref b_2)])) rfl (by rw [hml]; rfl) (Steps.refl _) (argsL := []) (rest := []) (lenOf own_pd19 rfl) rfl (by show 2 * 0 + _ ≤ _; exact Nat.le_of_eq rfl) (hb hby d11_22) (fun _ _ => ⟨rfl, e21, (by decide : 1 + 0 ≤ _), (by decide : 4 + 0 ≤ _)⟩)
  dsimp only [Pt.U, Pt.locs, Pt.cells, Pt.slots] at X22 l22 y22 z22 st22 hQ22
  subst l22 y22 z22
  obtain ⟨rfl, N22q, Kc22, G22_0, G22_1, G22_2, G22_3⟩ := hQ22
  have N22 := Fr.app N21 N22q
  have K22 : Keep h0 T22.heap [] := (K13).trans Kc22 (allS (P := fun x => x ∈ ([] : List Addr) ∨ h0.size ≤ x) (Or.inr sz_b_2) (all0 (P := fun x => x ∈ ([] : List Addr) ∨ h0.size ≤ x)))
  refine OGo.of st22 ?_
  show OGo p e below _ (T22.setTop (mkF m 27 #[.val (.ref a0), .val (.long (((0 : Int64) + q0) + q1)), .second, .val (.ref b_2), .val (.ref c1)] [(.ref c2)]))
  have f26 : Exa Z T22.heap c2 "com/example/kept_inbox/keptinbox/UnreadConversation" := ((((Ec2.keep Kc2).keep Kc4).keep Kc13).keep Kc22)
  obtain ⟨T27, X27, e27, st27⟩ := castY X22 hx hZ hown (hw _ (List.mem_of_getElem? (i := 250) rfl)) rfl (Ins.self f26) (g := (mkF m 27 #[.val (.ref a0), .val (.long (((0 : Int64) + q0) + q1)), .second, .val (.ref b_2), .val (.ref c1)] [(.ref c2)])) rfl rfl (hb hby d11_27)
  refine OGo.by st27 ?_
  show OGo p e below _ (T27.setTop (mkF m 30 #[.val (.ref a0), .val (.long (((0 : Int64) + q0) + q1)), .second, .val (.ref b_2), .val (.ref c1)] [(.ref c2)]))
  refine OGo.by (fun _ k => XS.astore X27.here hx rfl (hb hby d11_30) rfl rfl (l' := #[.val (.ref a0), .val (.long (((0 : Int64) + q0) + q1)), .second, .val (.ref b_2), .val (.ref c2)]) rfl k) ?_
  show OGo p e below _ (T27.setTop (mkF m 32 #[.val (.ref a0), .val (.long (((0 : Int64) + q0) + q1)), .second, .val (.ref b_2), .val (.ref c2)] []))
  refine OGo.by (fun _ k => XS.lloadN X27.here hx rfl (hb hby d11_32) rfl k) ?_
  show OGo p e below _ (T27.setTop (mkF m 33 #[.val (.ref a0), .val (.long (((0 : Int64) + q0) + q1)), .second, .val (.ref b_2), .val (.ref c2)] [(.long (((0 : Int64) + q0) + q1))]))
  refine OGo.by (fun _ k => XS.aload X27.here hx rfl (hb hby d11_33) rfl rfl k) ?_
  show OGo p e below _ (T27.setTop (mkF m 35 #[.val (.ref a0), .val (.long (((0 : Int64) + q0) + q1)), .second, .val (.ref b_2), .val (.ref c2)] [(.ref c2), (.long (((0 : Int64) + q0) + q1))]))
  have f29 : Fld Z T22.heap c2 "com/example/kept_inbox/keptinbox/UnreadConversation" "waiting" "J" (.long q2) := ((((Fc2.keep Kc2 nin0).keep Kc4 (ninS ne_c2_b_2 nin0)).keep Kc13 (ninS ne_c2_b_2 nin0)).keep Kc22 (ninS ne_c2_b_2 nin0))
  obtain ⟨cq28, kq28, q28a, q28b, q28c⟩ := isOf hZ e27 f26
  obtain ⟨_, _, ⟨T28, L28, k28, n28⟩, -, X28, ⟨Lc28, hQ28, l28, y28, z28⟩, st28⟩ := X27.virtualBack hx (y := (⟨"com/example/kept_inbox/keptinbox/UnreadConversation", "waiting", "()J"⟩ : MethodName)) (z := (⟨"com/example/kept_inbox/keptinbox/UnreadConversation", "waiting", "()J"⟩ : MethodName)) hown (mvT hZ (hw _ (List.mem_of_getElem? (i := 252) rfl))) (mvT hZ (hw _ (List.mem_of_getElem? (i := 253) rfl))) (notFace_of_selects (args := #[]) (mvT hZ (hw _ (List.mem_of_getElem? (i := 255) rfl)))) (mvT hZ (hw _ (List.mem_of_getElem? (i := 255) rfl))) (mvT hZ (hw _ (List.mem_of_getElem? (i := 254) rfl))) (by decide) (backOf (W := 2) (rm34 l Z av0 hw [] c2 q2 T22.heap n0 (Nat.le_trans Z0 K22.1) f29) hZ (hw _ (List.mem_of_getElem? (i := 256) rfl)) (hw _ (List.mem_of_getElem? (i := 120) rfl)) (by decide) (by decide)) q28a q28c (g := (mkF m 35 #[.val (.ref a0), .val (.long (((0 : Int64) + q0) + q1)), .second, .val (.ref b_2), .val (.ref c2)] [(.ref c2), (.long (((0 : Int64) + q0) + q1))])) rfl (by rw [hml]; rfl) (Steps.refl _) (argsL := []) (rest := [(.long (((0 : Int64) + q0) + q1))]) (lenOf own_pd20 rfl) rfl (by show 2 * 0 + _ ≤ _; exact Nat.le_of_eq rfl) (hb hby d11_35) (fun _ _ => ⟨rfl, e27, (by decide : 1 + 0 ≤ _), (by decide : 4 + 0 ≤ _)⟩)
  dsimp only [Pt.U, Pt.locs, Pt.cells, Pt.slots] at X28 l28 y28 z28 st28 hQ28
  subst l28 y28 z28
  obtain ⟨rfl, N28q, e28⟩ := hQ28
  have N28 := Fr.app N22 N28q
  refine OGo.of st28 ?_
  show OGo p e below _ (T28.setTop (mkF m 38 #[.val (.ref a0), .val (.long (((0 : Int64) + q0) + q1)), .second, .val (.ref b_2), .val (.ref c2)] [(.long q2), (.long (((0 : Int64) + q0) + q1))]))
  refine OGo.by (fun _ k => XS.ladd X28.here hx rfl (hb hby d11_38) rfl k) ?_
  show OGo p e below _ (T28.setTop (mkF m 39 #[.val (.ref a0), .val (.long (((0 : Int64) + q0) + q1)), .second, .val (.ref b_2), .val (.ref c2)] [(.long ((((0 : Int64) + q0) + q1) + q2))]))
  refine OGo.by (fun _ k => XS.lstoreN X28.here hx rfl (hb hby d11_39) rfl (l' := #[.val (.ref a0), .val (.long ((((0 : Int64) + q0) + q1) + q2)), .second, .val (.ref b_2), .val (.ref c2)]) rfl k) ?_
  show OGo p e below _ (T28.setTop (mkF m 40 #[.val (.ref a0), .val (.long ((((0 : Int64) + q0) + q1) + q2)), .second, .val (.ref b_2), .val (.ref c2)] []))
  refine OGo.by (fun _ k => XS.goto X28.here hx rfl (pc0 := 40) (pc' := 12) rfl (hb hby d11_40) (by decide) (by decide) k) ?_
  show OGo p e below _ (T28.setTop (mkF m 12 #[.val (.ref a0), .val (.long ((((0 : Int64) + q0) + q1) + q2)), .second, .val (.ref b_2), .val (.ref c2)] []))
  refine OGo.by (fun _ k => XS.aloadN X28.here hx rfl (hb hby d11_12) rfl rfl k) ?_
  show OGo p e below _ (T28.setTop (mkF m 13 #[.val (.ref a0), .val (.long ((((0 : Int64) + q0) + q1) + q2)), .second, .val (.ref b_2), .val (.ref c2)] [(.ref b_2)]))
  obtain ⟨cq30, kq30, q30a, q30b, q30c⟩ := isOf hZ e28 G22_0
  obtain ⟨_, _, ⟨T30, L30, k30, n30⟩, -, X30, ⟨Lc30, hQ30, l30, y30, z30⟩, st30⟩ := X28.interfaceBack hx (xi := (⟨"java/util/Iterator", "hasNext", "()Z"⟩ : MethodName)) (y := (⟨"java/util/ImmutableCollections$ListItr", "hasNext", "()Z"⟩ : MethodName)) hown (mvT hZ (hw _ (List.mem_of_getElem? (i := 109) rfl))) (mvT hZ (hw _ (List.mem_of_getElem? (i := 110) rfl))) (mvT hZ (hw _ (List.mem_of_getElem? (i := 111) rfl))) (mvT hZ (hw _ (List.mem_of_getElem? (i := 112) rfl))) (mvT hZ (hw _ (List.mem_of_getElem? (i := 113) rfl))) (mvT hZ (hw _ (List.mem_of_getElem? (i := 114) rfl))) (mvT hZ (hw _ (List.mem_of_getElem? (i := 115) rfl))) (mvT hZ (hw _ (List.mem_of_getElem? (i := 116) rfl))) (by decide) (backOf (W := 0) (rm_hn3_3 l Z av0 hw [] b_2 T22.heap n0 (Nat.le_trans Z0 K22.1) G22_2 G22_3) hZ (hw _ (List.mem_of_getElem? (i := 117) rfl)) (hw _ (List.mem_of_getElem? (i := 86) rfl)) (by decide) (by decide)) q30a q30b q30c (g := (mkF m 13 #[.val (.ref a0), .val (.long ((((0 : Int64) + q0) + q1) + q2)), .second, .val (.ref b_2), .val (.ref c2)] [(.ref b_2)])) rfl (by rw [hml]; rfl) (Steps.refl _) (argsL := []) (rest := []) (lenOf own_pd6 rfl) rfl (by show 2 * 0 + _ ≤ _; exact Nat.le_of_eq rfl) (hb hby d11_13) (fun _ _ => ⟨rfl, e28, (by decide : 1 + 0 ≤ _), (by decide : 4 + 0 ≤ _)⟩)
  dsimp only [Pt.U, Pt.locs, Pt.cells, Pt.slots] at X30 l30 y30 z30 st30 hQ30
  subst l30 y30 z30
  obtain ⟨rfl, N30q, e30⟩ := hQ30
  have N30 := Fr.app N28 N30q
  refine OGo.of st30 ?_
  show OGo p e below _ (T30.setTop (mkF m 18 #[.val (.ref a0), .val (.long ((((0 : Int64) + q0) + q1) + q2)), .second, .val (.ref b_2), .val (.ref c2)] [(.int (0 : Int32))]))
  refine OGo.by (fun _ k => XS.ifYes X30.here hx rfl (pc0 := 18) (pc' := 43) rfl (hb hby d11_18) rfl ((if0 _ _).trans (teq (by decide : (0 : Int32) = (0 : Int32))).1) (by decide) (by decide) k) ?_
  show OGo p e below _ (T30.setTop (mkF m 43 #[.val (.ref a0), .val (.long ((((0 : Int64) + q0) + q1) + q2)), .second, .val (.ref b_2), .val (.ref c2)] []))
  refine OGo.by (fun _ k => XS.lloadN X30.here hx rfl (hb hby d11_43) rfl k) ?_
  show OGo p e below _ (T30.setTop (mkF m 44 #[.val (.ref a0), .val (.long ((((0 : Int64) + q0) + q1) + q2)), .second, .val (.ref b_2), .val (.ref c2)] [(.long ((((0 : Int64) + q0) + q1) + q2))]))
  obtain ⟨fs, hr, hrun, hended, hW, hsame⟩ := X30.leave (v := some (.long ((((0 : Int64) + q0) + q1) + q2))) (fun h => by rw [Bd.returns] at h; cases h)
  refine OGo.ret (retOut X30 hx Bd.returns rfl (Or.inr (Or.inl ⟨rfl, rfl, _, rfl⟩)) (hb hby d11_44) hr) hrun hended ⟨_, _, rfl, ?_, ⟨_, rfl⟩, hW, hsame.mono (by decide) (by decide)⟩
  show Q_rm_tot3 Z a0 li t kt c0 c1 c2 q0 q1 q2 h0 n0 _ T30.heap _
  rw [e30]
  exact ⟨rfl, N30, K22⟩
theorem own_lt12 {x : Int32} (h : x < (1 : Int32)) : x < (2 : Int32) := by rw [Int32.lt_iff_toInt_lt] at h ⊢; have e1 : (1 : Int32).toInt = 1 := rfl; have e2 : (2 : Int32).toInt = 2 := rfl; omega
theorem own_lt23 {x : Int32} (h : x < (2 : Int32)) : x < (3 : Int32) := by rw [Int32.lt_iff_toInt_lt] at h ⊢; have e1 : (3 : Int32).toInt = 3 := rfl; have e2 : (2 : Int32).toInt = 2 := rfl; omega
theorem own_pd21 : parseMethodDescriptor "(Ljava/util/List;)V" = some ⟨[(.object "java/util/List")], none⟩ := by decide +kernel
theorem own_pd22 : parseMethodDescriptor "(Ljava/lang/String;JLjava/lang/String;)V" = some ⟨[(.object "java/lang/String"), .long, (.object "java/lang/String")], none⟩ := by decide +kernel
theorem own_pd23 : parseMethodDescriptor "(Ljava/lang/Object;)Z" = some ⟨[(.object "java/lang/Object")], some .boolean⟩ := by decide +kernel
theorem own_pn0 : plainName "com/example/kept_inbox/keptinbox/UnreadTotalPinLaw" = true := by first | (simp [plainName, overriddenIn]; done) | decide +kernel
theorem ef_rm0 (m : MethodId) (i0 : Int32) (i1 : Int64) (i2 : Int64) (i3 : Int64) : entryFrame m #[(.int i0), (.long i1), (.long i2), (.long i3)] maxLocals = mkF m 0 #[.val (.int i0), .val (.long i1), .second, .val (.long i2), .second, .val (.long i3), .second, .unset, .unset, .unset, .unset, .unset] [] := by first | (simp [entryFrame, mkF, argsToLocals, Value.category, maxLocals]; done) | rfl
def Q_rm0 (Z : State) (i0 : Int32) (i1 : Int64) (i2 : Int64) (i3 : Int64) (w : Addr) (ke : ClassId) (wl : Addr) (t : Addr) (kt : ClassId) (we : Addr) (mr : Addr) (h0 : Heap) (n0 : Nat) (v : Option Value) (h : Heap) (L : List Loc) : Prop := v = some (.int 1) ∧ Fr n0 L
set_option maxRecDepth 65536 in
set_option maxHeartbeats 40000000 in
theorem rm0 (l : Launch) (Z : State) (av0 : Array Value) (hw : ∀ d ∈ tables_1, d.before av0 Z = true) (ws : List Jvm.Cond) (i0 : Int32) (i1 : Int64) (i2 : Int64) (i3 : Int64) (w : Addr) (ke : ClassId) (wl : Addr) (t : Addr) (kt : ClassId) (we : Addr) (mr : Addr) (h0 : Heap) (n0 : Nat) (Z0 : n0 ≤ h0.size) (O_0 : Old Z n0 h0) (S_d : Sta Z Z.heap "java/util/ArrayList" "DEFAULTCAPACITY_EMPTY_ELEMENTDATA" "[Ljava/lang/Object;" (.ref w)) (A_w : Arv Z h0 w ke (.object "java/lang/Object") (0 : Int32) [] .null) (S_l : Sta Z Z.heap "java/util/ImmutableCollections" "EMPTY_LIST" "Ljava/util/ImmutableCollections$ListN;" (.ref wl)) (l_0 : Exa Z h0 wl "java/util/ImmutableCollections$ListN") (l_1 : Fld Z h0 wl "java/util/ImmutableCollections$ListN" "elements" "[Ljava/lang/Object;" (.ref t)) (l_2 : Arv Z h0 t kt (.object "java/lang/Object") (0 : Int32) [] .null) (S_e : Sta Z Z.heap "java/util/ImmutableCollections" "EMPTY" "Ljava/lang/Object;" (.ref we)) (E_e : Exa Z h0 we "java/lang/Object") (M_0 : Mir Z "[Ljava/lang/Object;" mr) :
    MetFree l x (head1 (Jvm.Cond.code x code maxLocals ret :: ws) room_1) (fun a U => a = #[(.int i0), (.long i1), (.long i2), (.long i3)] ∧ Z.Warmed39 U.vm ∧ U.heap = h0) (fun _ _ _ _ _ => True) (fun _ U o U' => ∃ v L, o = .returned v ∧ Q_rm0 Z i0 i1 i2 i3 w ke wl t kt we mr h0 n0 v U'.heap L ∧ ReturnedEndW U o U' L room_1.cells room_1.slots) := by
  refine MetFree.of_bodySF (plainFor_of_name own_pn0) hisR ?_
  intro p e s m args below meth c s₁ Bd hml0 hP hK
  obtain ⟨rfl, hZ, hh⟩ := hP
  have hx := Bd.exec
  have hby := Bd.bytes
  have hml : c.maxLocals = 12 := hml0
  have hown : s.vm.findClass "com/example/kept_inbox/keptinbox/UnreadTotalPinLaw" = some m.cls := findClass_of_methodNamed Bd.named
  have hnm := (name_of_methodNamed Bd.named Bd.method).1
  have X0 : Stand p l e room_1 s m #[(.int i0), (.long i1), (.long i2), (.long i3)] below meth c s₁ [] 0 0 := Stand.of_body Bd
  have e0 : s₁.heap = h0 := by rw [← hh, Bd.state]; rfl
  have N0 := Fr.nil n0
  have hS0 : s.Since s.vm 0 := (State.WarmedH.refl s).since 0
  refine OGo.by (P := fun U' o => ∃ v L, o = .returned v ∧ Q_rm0 Z i0 i1 i2 i3 w ke wl t kt we mr h0 n0 v U'.heap L ∧ ReturnedEndW s o U' L room_1.cells room_1.slots) (fun T_ k_ => castTop (ef_rm0 m i0 i1 i2 i3) k_) ?_
  show OGo p e below _ (s₁.setTop (mkF m 0 #[.val (.int i0), .val (.long i1), .second, .val (.long i2), .second, .val (.long i3), .second, .unset, .unset, .unset, .unset, .unset] []))
  refine OGo.by (fun _ k => XS.iloadN X0.here hx rfl (hb hby at_0) rfl k) ?_
  show OGo p e below _ (s₁.setTop (mkF m 1 #[.val (.int i0), .val (.long i1), .second, .val (.long i2), .second, .val (.long i3), .second, .unset, .unset, .unset, .unset, .unset] [(.int i0)]))
  refine OGo.by (fun _ k => XS.iconst X0.here hx rfl (hb hby at_1) k) ?_
  show OGo p e below _ (s₁.setTop (mkF m 2 #[.val (.int i0), .val (.long i1), .second, .val (.long i2), .second, .val (.long i3), .second, .unset, .unset, .unset, .unset, .unset] [(.int (3 : Int32)), (.int i0)]))
  refine OGo.by (fun _ k => XS.iand X0.here hx rfl (hb hby at_2) rfl k) ?_
  show OGo p e below _ (s₁.setTop (mkF m 3 #[.val (.int i0), .val (.long i1), .second, .val (.long i2), .second, .val (.long i3), .second, .unset, .unset, .unset, .unset, .unset] [(.int (i0 &&& (3 : Int32)))]))
  refine OGo.by (fun _ k => XS.istore X0.here hx rfl (hb hby at_3) rfl (l' := #[.val (.int i0), .val (.long i1), .second, .val (.long i2), .second, .val (.long i3), .second, .val (.int (i0 &&& (3 : Int32))), .unset, .unset, .unset, .unset]) rfl k) ?_
  show OGo p e below _ (s₁.setTop (mkF m 5 #[.val (.int i0), .val (.long i1), .second, .val (.long i2), .second, .val (.long i3), .second, .val (.int (i0 &&& (3 : Int32))), .unset, .unset, .unset, .unset] []))
  obtain ⟨T1, h1, X1, e1, E1, A1, D1, U1, st1⟩ := newO X0 hx hZ hown (hw _ (List.mem_of_getElem? (i := 0) rfl)) (hw _ (List.mem_of_getElem? (i := 1) rfl)) (hw _ (List.mem_of_getElem? (i := 2) rfl)) e0 (g := (mkF m 5 #[.val (.int i0), .val (.long i1), .second, .val (.long i2), .second, .val (.long i3), .second, .val (.int (i0 &&& (3 : Int32))), .unset, .unset, .unset, .unset] [])) rfl (hb hby at_5) (by decide) (by decide)
  obtain ⟨b1, g1⟩ : ∃ z, z = h0.size := ⟨_, rfl⟩
  rw [← g1] at A1 D1 U1 st1
  have ne_w_b1 : w ≠ b1 := Nat.ne_of_lt (Nat.lt_of_lt_of_le A_w.lt (Nat.le_of_eq g1.symm))
  have ne_wl_b1 : wl ≠ b1 := Nat.ne_of_lt (Nat.lt_of_lt_of_le l_0.lt (Nat.le_of_eq g1.symm))
  have ne_t_b1 : t ≠ b1 := Nat.ne_of_lt (Nat.lt_of_lt_of_le l_2.lt (Nat.le_of_eq g1.symm))
  have ne_we_b1 : we ≠ b1 := Nat.ne_of_lt (Nat.lt_of_lt_of_le E_e.lt (Nat.le_of_eq g1.symm))
  have g_b1 : n0 ≤ b1 := Nat.le_trans Z0 (Nat.le_of_eq g1.symm)
  have sz_b1 : h0.size ≤ b1 := Nat.le_trans (Nat.le_refl _) (Nat.le_of_eq g1.symm)
  refine OGo.by st1 ?_
  have K1 : Keep h0 h1 [] := ((Keep.refl h0 [])).ext E1
  have F1_modCount : Fld Z h1 b1 "java/util/AbstractList" "modCount" "I" (.int (0 : Int32)) := D1 (Or.inl (hw _ (List.mem_of_getElem? (i := 22) rfl))) (ty := .int) (by decide)
  have F1_elementData : Fld Z h1 b1 "java/util/ArrayList" "elementData" "[Ljava/lang/Object;" .null := D1 (Or.inl (hw _ (List.mem_of_getElem? (i := 25) rfl))) (ty := (.array (.object "java/lang/Object"))) (by decide)
  have F1_size : Fld Z h1 b1 "java/util/ArrayList" "size" "I" (.int (0 : Int32)) := D1 (Or.inl (hw _ (List.mem_of_getElem? (i := 62) rfl))) (ty := .int) (by decide)
  show OGo p e below _ (T1.setTop (mkF m 8 #[.val (.int i0), .val (.long i1), .second, .val (.long i2), .second, .val (.long i3), .second, .val (.int (i0 &&& (3 : Int32))), .unset, .unset, .unset, .unset] [(.ref b1)]))
  refine OGo.by (fun _ k => XS.dup X1.here hx rfl (hb hby at_8) rfl rfl k) ?_
  show OGo p e below _ (T1.setTop (mkF m 9 #[.val (.int i0), .val (.long i1), .second, .val (.long i2), .second, .val (.long i3), .second, .val (.int (i0 &&& (3 : Int32))), .unset, .unset, .unset, .unset] [(.ref b1), (.ref b1)]))
  have f3 : Old Z n0 h1 := (O_0.ext E1)
  obtain ⟨_, _, ⟨T2, L2, k2, n2⟩, -, X2, ⟨Lc2, hQ2, l2, y2, z2⟩, st2⟩ := X1.specialBack hx (y := (⟨"java/util/ArrayList", "<init>", "()V"⟩ : MethodName)) rfl hown (mvT hZ (hw _ (List.mem_of_getElem? (i := 3) rfl))) (mvT hZ (hw _ (List.mem_of_getElem? (i := 4) rfl))) (mvT hZ (hw _ (List.mem_of_getElem? (i := 5) rfl))) (by decide) (backOf (W := 1) (rm1 l Z av0 hw [] b1 w h1 n0 (Nat.le_trans Z0 K1.1) A1 F1_modCount F1_size F1_elementData g_b1 f3 S_d) hZ (hw _ (List.mem_of_getElem? (i := 5) rfl)) (hw _ (List.mem_of_getElem? (i := 2) rfl)) (by decide) (by decide)) (g := (mkF m 9 #[.val (.int i0), .val (.long i1), .second, .val (.long i2), .second, .val (.long i3), .second, .val (.int (i0 &&& (3 : Int32))), .unset, .unset, .unset, .unset] [(.ref b1), (.ref b1)])) rfl (by rw [hml]; rfl) (Steps.refl _) (a := b1) (argsL := []) (rest := [(.ref b1)]) (lenOf own_pd0 rfl) rfl (by show 2 * 0 + _ ≤ _; exact Nat.le_of_eq rfl) (hb hby at_9) (fun _ _ => ⟨rfl, e1, (by decide : 1 + 0 ≤ _), (by decide : 3 + 0 ≤ _)⟩)
  dsimp only [Pt.U, Pt.locs, Pt.cells, Pt.slots] at X2 l2 y2 z2 st2 hQ2
  subst l2 y2 z2
  obtain ⟨rfl, N2q, Kc2, G2_0, G2_1, G2_2, G2_3⟩ := hQ2
  have N2 := Fr.app N0 N2q
  have K2 : Keep h0 T2.heap [] := (K1).trans Kc2 (allS (P := fun x => x ∈ ([] : List Addr) ∨ h0.size ≤ x) (Or.inr sz_b1) (all0 (P := fun x => x ∈ ([] : List Addr) ∨ h0.size ≤ x)))
  refine OGo.of st2 ?_
  show OGo p e below _ (T2.setTop (mkF m 12 #[.val (.int i0), .val (.long i1), .second, .val (.long i2), .second, .val (.long i3), .second, .val (.int (i0 &&& (3 : Int32))), .unset, .unset, .unset, .unset] [(.ref b1)]))
  refine OGo.by (fun _ k => XS.astore X2.here hx rfl (hb hby at_12) rfl rfl (l' := #[.val (.int i0), .val (.long i1), .second, .val (.long i2), .second, .val (.long i3), .second, .val (.int (i0 &&& (3 : Int32))), .val (.ref b1), .unset, .unset, .unset]) rfl k) ?_
  show OGo p e below _ (T2.setTop (mkF m 14 #[.val (.int i0), .val (.long i1), .second, .val (.long i2), .second, .val (.long i3), .second, .val (.int (i0 &&& (3 : Int32))), .val (.ref b1), .unset, .unset, .unset] []))
  refine OGo.by (fun _ k => XS.lconst X2.here hx rfl (hb hby at_14) k) ?_
  show OGo p e below _ (T2.setTop (mkF m 15 #[.val (.int i0), .val (.long i1), .second, .val (.long i2), .second, .val (.long i3), .second, .val (.int (i0 &&& (3 : Int32))), .val (.ref b1), .unset, .unset, .unset] [(.long (0 : Int64))]))
  refine OGo.by (fun _ k => XS.lstore X2.here hx rfl (hb hby at_15) rfl (l' := #[.val (.int i0), .val (.long i1), .second, .val (.long i2), .second, .val (.long i3), .second, .val (.int (i0 &&& (3 : Int32))), .val (.ref b1), .val (.long (0 : Int64)), .second, .unset]) rfl k) ?_
  show OGo p e below _ (T2.setTop (mkF m 17 #[.val (.int i0), .val (.long i1), .second, .val (.long i2), .second, .val (.long i3), .second, .val (.int (i0 &&& (3 : Int32))), .val (.ref b1), .val (.long (0 : Int64)), .second, .unset] []))
  refine OGo.by (fun _ k => XS.iload X2.here hx rfl (hb hby at_17) rfl k) ?_
  show OGo p e below _ (T2.setTop (mkF m 19 #[.val (.int i0), .val (.long i1), .second, .val (.long i2), .second, .val (.long i3), .second, .val (.int (i0 &&& (3 : Int32))), .val (.ref b1), .val (.long (0 : Int64)), .second, .unset] [(.int (i0 &&& (3 : Int32)))]))
  refine OGo.by (fun _ k => XS.iconst X2.here hx rfl (hb hby at_19) k) ?_
  show OGo p e below _ (T2.setTop (mkF m 20 #[.val (.int i0), .val (.long i1), .second, .val (.long i2), .second, .val (.long i3), .second, .val (.int (i0 &&& (3 : Int32))), .val (.ref b1), .val (.long (0 : Int64)), .second, .unset] [(.int (1 : Int32)), (.int (i0 &&& (3 : Int32)))]))
  by_cases hc20_4 : (i0 &&& (3 : Int32)) < (1 : Int32)
  · refine OGo.by (fun _ k => XS.icmpYes X2.here hx rfl (pc0 := 20) (pc' := 47) rfl (hb hby at_20) rfl (tlt hc20_4).1 (by decide) (by decide) k) ?_
    show OGo p e below _ (T2.setTop (mkF m 47 #[.val (.int i0), .val (.long i1), .second, .val (.long i2), .second, .val (.long i3), .second, .val (.int (i0 &&& (3 : Int32))), .val (.ref b1), .val (.long (0 : Int64)), .second, .unset] []))
    refine OGo.by (fun _ k => XS.iload X2.here hx rfl (hb hby at_47) rfl k) ?_
    show OGo p e below _ (T2.setTop (mkF m 49 #[.val (.int i0), .val (.long i1), .second, .val (.long i2), .second, .val (.long i3), .second, .val (.int (i0 &&& (3 : Int32))), .val (.ref b1), .val (.long (0 : Int64)), .second, .unset] [(.int (i0 &&& (3 : Int32)))]))
    refine OGo.by (fun _ k => XS.iconst X2.here hx rfl (hb hby at_49) k) ?_
    show OGo p e below _ (T2.setTop (mkF m 50 #[.val (.int i0), .val (.long i1), .second, .val (.long i2), .second, .val (.long i3), .second, .val (.int (i0 &&& (3 : Int32))), .val (.ref b1), .val (.long (0 : Int64)), .second, .unset] [(.int (2 : Int32)), (.int (i0 &&& (3 : Int32)))]))
    refine OGo.by (fun _ k => XS.icmpYes X2.here hx rfl (pc0 := 50) (pc' := 77) rfl (hb hby at_50) rfl (tlt (own_lt12 hc20_4)).1 (by decide) (by decide) k) ?_
    show OGo p e below _ (T2.setTop (mkF m 77 #[.val (.int i0), .val (.long i1), .second, .val (.long i2), .second, .val (.long i3), .second, .val (.int (i0 &&& (3 : Int32))), .val (.ref b1), .val (.long (0 : Int64)), .second, .unset] []))
    refine OGo.by (fun _ k => XS.iload X2.here hx rfl (hb hby at_77) rfl k) ?_
    show OGo p e below _ (T2.setTop (mkF m 79 #[.val (.int i0), .val (.long i1), .second, .val (.long i2), .second, .val (.long i3), .second, .val (.int (i0 &&& (3 : Int32))), .val (.ref b1), .val (.long (0 : Int64)), .second, .unset] [(.int (i0 &&& (3 : Int32)))]))
    refine OGo.by (fun _ k => XS.iconst X2.here hx rfl (hb hby at_79) k) ?_
    show OGo p e below _ (T2.setTop (mkF m 80 #[.val (.int i0), .val (.long i1), .second, .val (.long i2), .second, .val (.long i3), .second, .val (.int (i0 &&& (3 : Int32))), .val (.ref b1), .val (.long (0 : Int64)), .second, .unset] [(.int (3 : Int32)), (.int (i0 &&& (3 : Int32)))]))
    refine OGo.by (fun _ k => XS.icmpYes X2.here hx rfl (pc0 := 80) (pc' := 109) rfl (hb hby at_80) rfl (tlt (own_lt23 (own_lt12 hc20_4))).1 (by decide) (by decide) k) ?_
    show OGo p e below _ (T2.setTop (mkF m 109 #[.val (.int i0), .val (.long i1), .second, .val (.long i2), .second, .val (.long i3), .second, .val (.int (i0 &&& (3 : Int32))), .val (.ref b1), .val (.long (0 : Int64)), .second, .unset] []))
    obtain ⟨T5, h5, X5, e5, E5, A5, D5, U5, st5⟩ := newO X2 hx hZ hown (hw _ (List.mem_of_getElem? (i := 26) rfl)) (hw _ (List.mem_of_getElem? (i := 27) rfl)) (hw _ (List.mem_of_getElem? (i := 28) rfl)) rfl (g := (mkF m 109 #[.val (.int i0), .val (.long i1), .second, .val (.long i2), .second, .val (.long i3), .second, .val (.int (i0 &&& (3 : Int32))), .val (.ref b1), .val (.long (0 : Int64)), .second, .unset] [])) rfl (hb hby at_109) (by decide) (by decide)
    obtain ⟨b5, g5⟩ : ∃ z, z = T2.heap.size := ⟨_, rfl⟩
    rw [← g5] at A5 D5 U5 st5
    have f6 : Arv Z T2.heap w ke (.object "java/lang/Object") (0 : Int32) [] .null := ((A_w.ext E1).keep Kc2 (ninS ne_w_b1 nin0))
    have ne_w_b5 : w ≠ b5 := Nat.ne_of_lt (Nat.lt_of_lt_of_le f6.lt (Nat.le_of_eq g5.symm))
    have f7 : Exa Z T2.heap wl "java/util/ImmutableCollections$ListN" := ((l_0.ext E1).keep Kc2)
    have ne_wl_b5 : wl ≠ b5 := Nat.ne_of_lt (Nat.lt_of_lt_of_le f7.lt (Nat.le_of_eq g5.symm))
    have f8 : Arv Z T2.heap t kt (.object "java/lang/Object") (0 : Int32) [] .null := ((l_2.ext E1).keep Kc2 (ninS ne_t_b1 nin0))
    have ne_t_b5 : t ≠ b5 := Nat.ne_of_lt (Nat.lt_of_lt_of_le f8.lt (Nat.le_of_eq g5.symm))
    have f9 : Exa Z T2.heap we "java/lang/Object" := ((E_e.ext E1).keep Kc2)
    have ne_we_b5 : we ≠ b5 := Nat.ne_of_lt (Nat.lt_of_lt_of_le f9.lt (Nat.le_of_eq g5.symm))
    have ne_b1_b5 : b1 ≠ b5 := Nat.ne_of_lt (Nat.lt_of_lt_of_le G2_0.lt (Nat.le_of_eq g5.symm))
    have g_b5 : n0 ≤ b5 := Nat.le_trans (Nat.le_trans Z0 K2.1) (Nat.le_of_eq g5.symm)
    have sz_b5 : h0.size ≤ b5 := Nat.le_trans K2.1 (Nat.le_of_eq g5.symm)
    refine OGo.by st5 ?_
    have K5 : Keep h0 h5 [] := (K2).ext E5
    have F5_conversations : Fld Z h5 b5 "com/example/kept_inbox/keptinbox/Unread" "conversations" "Ljava/util/List;" .null := D5 (Or.inr (hw _ (List.mem_of_getElem? (i := 68) rfl))) (ty := (.object "java/util/List")) (by decide)
    show OGo p e below _ (T5.setTop (mkF m 112 #[.val (.int i0), .val (.long i1), .second, .val (.long i2), .second, .val (.long i3), .second, .val (.int (i0 &&& (3 : Int32))), .val (.ref b1), .val (.long (0 : Int64)), .second, .unset] [(.ref b5)]))
    refine OGo.by (fun _ k => XS.dup X5.here hx rfl (hb hby at_112) rfl rfl k) ?_
    show OGo p e below _ (T5.setTop (mkF m 113 #[.val (.int i0), .val (.long i1), .second, .val (.long i2), .second, .val (.long i3), .second, .val (.int (i0 &&& (3 : Int32))), .val (.ref b1), .val (.long (0 : Int64)), .second, .unset] [(.ref b5), (.ref b5)]))
    refine OGo.by (fun _ k => XS.aload X5.here hx rfl (hb hby at_113) rfl rfl k) ?_
    show OGo p e below _ (T5.setTop (mkF m 115 #[.val (.int i0), .val (.long i1), .second, .val (.long i2), .second, .val (.long i3), .second, .val (.int (i0 &&& (3 : Int32))), .val (.ref b1), .val (.long (0 : Int64)), .second, .unset] [(.ref b1), (.ref b5), (.ref b5)]))
    have f11 : Exa Z h5 b1 "java/util/ArrayList" := (G2_0.ext E5)
    have f12 : Fld Z h5 b1 "java/util/ArrayList" "size" "I" (.int (0 : Int32)) := (G2_2.ext E5)
    have f13 : Old Z n0 h5 := ((f3.keep Kc2 (allS g_b1 all0)).ext E5)
    obtain ⟨_, _, ⟨T10, L10, k10, n10⟩, -, X10, ⟨Lc10, hQ10, l10, y10, z10⟩, st10⟩ := X5.specialBack hx (y := (⟨"com/example/kept_inbox/keptinbox/Unread", "<init>", "(Ljava/util/List;)V"⟩ : MethodName)) rfl hown (mvT hZ (hw _ (List.mem_of_getElem? (i := 29) rfl))) (mvT hZ (hw _ (List.mem_of_getElem? (i := 30) rfl))) (mvT hZ (hw _ (List.mem_of_getElem? (i := 31) rfl))) (by decide) (backOf (W := 1) (rm_un0 l Z av0 hw [] b5 b1 wl h5 n0 (Nat.le_trans Z0 K5.1) f11 f12 f13 S_l A5 F5_conversations g_b5) hZ (hw _ (List.mem_of_getElem? (i := 31) rfl)) (hw _ (List.mem_of_getElem? (i := 28) rfl)) (by decide) (by decide)) (g := (mkF m 115 #[.val (.int i0), .val (.long i1), .second, .val (.long i2), .second, .val (.long i3), .second, .val (.int (i0 &&& (3 : Int32))), .val (.ref b1), .val (.long (0 : Int64)), .second, .unset] [(.ref b1), (.ref b5), (.ref b5)])) rfl (by rw [hml]; rfl) (Steps.refl _) (a := b5) (argsL := [(.ref b1)]) (rest := [(.ref b5)]) (lenOf own_pd21 rfl) rfl (by show 2 * 0 + _ ≤ _; exact Nat.le_of_eq rfl) (hb hby at_115) (fun _ _ => ⟨rfl, e5, (by decide : 2 + 0 ≤ _), (by decide : 4 + 0 ≤ _)⟩)
    dsimp only [Pt.U, Pt.locs, Pt.cells, Pt.slots] at X10 l10 y10 z10 st10 hQ10
    subst l10 y10 z10
    obtain ⟨rfl, N10q, Kc10, G10_0, G10_1⟩ := hQ10
    have N10 := Fr.app N2 N10q
    have K10 : Keep h0 T10.heap [] := (K5).trans Kc10 (allS (P := fun x => x ∈ ([] : List Addr) ∨ h0.size ≤ x) (Or.inr sz_b5) (all0 (P := fun x => x ∈ ([] : List Addr) ∨ h0.size ≤ x)))
    refine OGo.of st10 ?_
    show OGo p e below _ (T10.setTop (mkF m 118 #[.val (.int i0), .val (.long i1), .second, .val (.long i2), .second, .val (.long i3), .second, .val (.int (i0 &&& (3 : Int32))), .val (.ref b1), .val (.long (0 : Int64)), .second, .unset] [(.ref b5)]))
    refine OGo.by (fun _ k => XS.astore X10.here hx rfl (hb hby at_118) rfl rfl (l' := #[.val (.int i0), .val (.long i1), .second, .val (.long i2), .second, .val (.long i3), .second, .val (.int (i0 &&& (3 : Int32))), .val (.ref b1), .val (.long (0 : Int64)), .second, .val (.ref b5)]) rfl k) ?_
    show OGo p e below _ (T10.setTop (mkF m 120 #[.val (.int i0), .val (.long i1), .second, .val (.long i2), .second, .val (.long i3), .second, .val (.int (i0 &&& (3 : Int32))), .val (.ref b1), .val (.long (0 : Int64)), .second, .val (.ref b5)] []))
    refine OGo.by (fun _ k => XS.aload X10.here hx rfl (hb hby at_120) rfl rfl k) ?_
    show OGo p e below _ (T10.setTop (mkF m 122 #[.val (.int i0), .val (.long i1), .second, .val (.long i2), .second, .val (.long i3), .second, .val (.int (i0 &&& (3 : Int32))), .val (.ref b1), .val (.long (0 : Int64)), .second, .val (.ref b5)] [(.ref b5)]))
    have f15 : Exa Z T10.heap wl "java/util/ImmutableCollections$ListN" := ((f7.ext E5).keep Kc10)
    have f16 : Fld Z T10.heap wl "java/util/ImmutableCollections$ListN" "elements" "[Ljava/lang/Object;" (.ref t) := ((((l_1.ext E1).keep Kc2 (ninS ne_wl_b1 nin0)).ext E5).keep Kc10 (ninS ne_wl_b5 nin0))
    have f17 : Arv Z T10.heap t kt (.object "java/lang/Object") (0 : Int32) [] .null := ((f8.ext E5).keep Kc10 (ninS ne_t_b5 nin0))
    obtain ⟨cq14, kq14, q14a, q14b, q14c⟩ := isOf hZ rfl G10_0
    obtain ⟨_, _, ⟨T14, L14, k14, n14⟩, -, X14, ⟨Lc14, hQ14, l14, y14, z14⟩, st14⟩ := X10.virtualBack hx (y := (⟨"com/example/kept_inbox/keptinbox/Unread", "total", "()J"⟩ : MethodName)) (z := (⟨"com/example/kept_inbox/keptinbox/Unread", "total", "()J"⟩ : MethodName)) hown (mvT hZ (hw _ (List.mem_of_getElem? (i := 69) rfl))) (mvT hZ (hw _ (List.mem_of_getElem? (i := 70) rfl))) (notFace_of_selects (args := #[]) (mvT hZ (hw _ (List.mem_of_getElem? (i := 72) rfl)))) (mvT hZ (hw _ (List.mem_of_getElem? (i := 72) rfl))) (mvT hZ (hw _ (List.mem_of_getElem? (i := 71) rfl))) (by decide) (backOf (W := 0) (rm_tot0 l Z av0 hw [] b5 wl t kt T10.heap n0 (Nat.le_trans Z0 K10.1) G10_1 f15 f16 f17) hZ (hw _ (List.mem_of_getElem? (i := 73) rfl)) (hw _ (List.mem_of_getElem? (i := 28) rfl)) (by decide) (by decide)) q14a q14c (g := (mkF m 122 #[.val (.int i0), .val (.long i1), .second, .val (.long i2), .second, .val (.long i3), .second, .val (.int (i0 &&& (3 : Int32))), .val (.ref b1), .val (.long (0 : Int64)), .second, .val (.ref b5)] [(.ref b5)])) rfl (by rw [hml]; rfl) (Steps.refl _) (argsL := []) (rest := []) (lenOf own_pd20 rfl) rfl (by show 2 * 0 + _ ≤ _; exact Nat.le_of_eq rfl) (hb hby at_122) (fun _ _ => ⟨rfl, rfl, (by decide : 2 + 1 ≤ _), (by decide : 4 + 4 ≤ _)⟩)
    dsimp only [Pt.U, Pt.locs, Pt.cells, Pt.slots] at X14 l14 y14 z14 st14 hQ14
    subst l14 y14 z14
    obtain ⟨rfl, N14q, Kc14⟩ := hQ14
    have N14 := Fr.app N10 N14q
    have K14 : Keep h0 T14.heap [] := (K10).trans Kc14 (all0 (P := fun x => x ∈ ([] : List Addr) ∨ h0.size ≤ x))
    refine OGo.of st14 ?_
    show OGo p e below _ (T14.setTop (mkF m 125 #[.val (.int i0), .val (.long i1), .second, .val (.long i2), .second, .val (.long i3), .second, .val (.int (i0 &&& (3 : Int32))), .val (.ref b1), .val (.long (0 : Int64)), .second, .val (.ref b5)] [(.long (0 : Int64))]))
    refine OGo.by (fun _ k => XS.lload X14.here hx rfl (hb hby at_125) rfl k) ?_
    show OGo p e below _ (T14.setTop (mkF m 127 #[.val (.int i0), .val (.long i1), .second, .val (.long i2), .second, .val (.long i3), .second, .val (.int (i0 &&& (3 : Int32))), .val (.ref b1), .val (.long (0 : Int64)), .second, .val (.ref b5)] [(.long (0 : Int64)), (.long (0 : Int64))]))
    refine OGo.by (fun _ k => XS.lcmp X14.here hx rfl (hb hby at_127) rfl k) ?_
    show OGo p e below _ (T14.setTop (mkF m 128 #[.val (.int i0), .val (.long i1), .second, .val (.long i2), .second, .val (.long i3), .second, .val (.int (i0 &&& (3 : Int32))), .val (.ref b1), .val (.long (0 : Int64)), .second, .val (.ref b5)] [(.int (lcmpW (0 : Int64) (0 : Int64)))]))
    refine OGo.by (fun _ k => XS.ifNo X14.here hx rfl (hb hby at_128) rfl ((if0 _ _).trans (teq ((lw_eq _ _).mpr (rfl : (0 : Int64) = (0 : Int64)))).2) k) ?_
    show OGo p e below _ (T14.setTop (mkF m 131 #[.val (.int i0), .val (.long i1), .second, .val (.long i2), .second, .val (.long i3), .second, .val (.int (i0 &&& (3 : Int32))), .val (.ref b1), .val (.long (0 : Int64)), .second, .val (.ref b5)] []))
    refine OGo.by (fun _ k => XS.iconst X14.here hx rfl (hb hby at_131) k) ?_
    show OGo p e below _ (T14.setTop (mkF m 132 #[.val (.int i0), .val (.long i1), .second, .val (.long i2), .second, .val (.long i3), .second, .val (.int (i0 &&& (3 : Int32))), .val (.ref b1), .val (.long (0 : Int64)), .second, .val (.ref b5)] [(.int (1 : Int32))]))
    refine OGo.by (fun _ k => XS.goto X14.here hx rfl (pc0 := 132) (pc' := 136) rfl (hb hby at_132) (by decide) (by decide) k) ?_
    show OGo p e below _ (T14.setTop (mkF m 136 #[.val (.int i0), .val (.long i1), .second, .val (.long i2), .second, .val (.long i3), .second, .val (.int (i0 &&& (3 : Int32))), .val (.ref b1), .val (.long (0 : Int64)), .second, .val (.ref b5)] [(.int (1 : Int32))]))
    have f18 : 0 ≤ T14.heap.size := (Nat.le_trans (Nat.le_trans (Nat.le_trans (Nat.le_trans (Nat.le_trans (Nat.zero_le _) E1.1) Kc2.1) E5.1) Kc10.1) Kc14.1)
    obtain ⟨fs, hr, hrun, hended, hRE⟩ := Stand.leaveW (s := s) (vm₁ := s.vm) X14 hS0 (by exact f18) (v := some (.int (1 : Int32))) (fun h => by rw [Bd.returns] at h; cases h)
    refine OGo.ret (retN X14 hx (t := .boolean) Bd.returns (by simp) (hb hby at_136) hr) hrun hended ⟨_, _, rfl, ?_, hRE.1, hRE.2.1, hRE.2.2.1, hRE.2.2.2.mono (by decide) (by decide)⟩
    show Q_rm0 Z i0 i1 i2 i3 w ke wl t kt we mr h0 n0 _ T14.heap _
    exact ⟨rfl, N14⟩
  · refine OGo.by (fun _ k => XS.icmpNo X2.here hx rfl (hb hby at_20) rfl (flt hc20_4).1 k) ?_
    show OGo p e below _ (T2.setTop (mkF m 23 #[.val (.int i0), .val (.long i1), .second, .val (.long i2), .second, .val (.long i3), .second, .val (.int (i0 &&& (3 : Int32))), .val (.ref b1), .val (.long (0 : Int64)), .second, .unset] []))
    refine OGo.by (fun _ k => XS.aload X2.here hx rfl (hb hby at_23) rfl rfl k) ?_
    show OGo p e below _ (T2.setTop (mkF m 25 #[.val (.int i0), .val (.long i1), .second, .val (.long i2), .second, .val (.long i3), .second, .val (.int (i0 &&& (3 : Int32))), .val (.ref b1), .val (.long (0 : Int64)), .second, .unset] [(.ref b1)]))
    obtain ⟨T19, h19, X19, e19, E19, A19, D19, U19, st19⟩ := newO X2 hx hZ hown (hw _ (List.mem_of_getElem? (i := 118) rfl)) (hw _ (List.mem_of_getElem? (i := 119) rfl)) (hw _ (List.mem_of_getElem? (i := 120) rfl)) rfl (g := (mkF m 25 #[.val (.int i0), .val (.long i1), .second, .val (.long i2), .second, .val (.long i3), .second, .val (.int (i0 &&& (3 : Int32))), .val (.ref b1), .val (.long (0 : Int64)), .second, .unset] [(.ref b1)])) rfl (hb hby at_25) (by decide) (by decide)
    obtain ⟨b19, g19⟩ : ∃ z, z = T2.heap.size := ⟨_, rfl⟩
    rw [← g19] at A19 D19 U19 st19
    have f20 : Arv Z T2.heap w ke (.object "java/lang/Object") (0 : Int32) [] .null := ((A_w.ext E1).keep Kc2 (ninS ne_w_b1 nin0))
    have ne_w_b19 : w ≠ b19 := Nat.ne_of_lt (Nat.lt_of_lt_of_le f20.lt (Nat.le_of_eq g19.symm))
    have f21 : Exa Z T2.heap wl "java/util/ImmutableCollections$ListN" := ((l_0.ext E1).keep Kc2)
    have ne_wl_b19 : wl ≠ b19 := Nat.ne_of_lt (Nat.lt_of_lt_of_le f21.lt (Nat.le_of_eq g19.symm))
    have f22 : Arv Z T2.heap t kt (.object "java/lang/Object") (0 : Int32) [] .null := ((l_2.ext E1).keep Kc2 (ninS ne_t_b1 nin0))
    have ne_t_b19 : t ≠ b19 := Nat.ne_of_lt (Nat.lt_of_lt_of_le f22.lt (Nat.le_of_eq g19.symm))
    have f23 : Exa Z T2.heap we "java/lang/Object" := ((E_e.ext E1).keep Kc2)
    have ne_we_b19 : we ≠ b19 := Nat.ne_of_lt (Nat.lt_of_lt_of_le f23.lt (Nat.le_of_eq g19.symm))
    have ne_b1_b19 : b1 ≠ b19 := Nat.ne_of_lt (Nat.lt_of_lt_of_le G2_0.lt (Nat.le_of_eq g19.symm))
    have g_b19 : n0 ≤ b19 := Nat.le_trans (Nat.le_trans Z0 K2.1) (Nat.le_of_eq g19.symm)
    have sz_b19 : h0.size ≤ b19 := Nat.le_trans K2.1 (Nat.le_of_eq g19.symm)
    refine OGo.by st19 ?_
    have K19 : Keep h0 h19 [] := (K2).ext E19
    have F19_id : Fld Z h19 b19 "com/example/kept_inbox/keptinbox/UnreadConversation" "id" "Ljava/lang/String;" .null := D19 (Or.inr (hw _ (List.mem_of_getElem? (i := 135) rfl))) (ty := (.object "java/lang/String")) (by decide)
    have F19_waiting : Fld Z h19 b19 "com/example/kept_inbox/keptinbox/UnreadConversation" "waiting" "J" (.long (0 : Int64)) := D19 (Or.inr (hw _ (List.mem_of_getElem? (i := 137) rfl))) (ty := .long) (by decide)
    have F19_newestTitle : Fld Z h19 b19 "com/example/kept_inbox/keptinbox/UnreadConversation" "newestTitle" "Ljava/lang/String;" .null := D19 (Or.inr (hw _ (List.mem_of_getElem? (i := 139) rfl))) (ty := (.object "java/lang/String")) (by decide)
    show OGo p e below _ (T19.setTop (mkF m 28 #[.val (.int i0), .val (.long i1), .second, .val (.long i2), .second, .val (.long i3), .second, .val (.int (i0 &&& (3 : Int32))), .val (.ref b1), .val (.long (0 : Int64)), .second, .unset] [(.ref b19), (.ref b1)]))
    refine OGo.by (fun _ k => XS.dup X19.here hx rfl (hb hby at_28) rfl rfl k) ?_
    show OGo p e below _ (T19.setTop (mkF m 29 #[.val (.int i0), .val (.long i1), .second, .val (.long i2), .second, .val (.long i3), .second, .val (.int (i0 &&& (3 : Int32))), .val (.ref b1), .val (.long (0 : Int64)), .second, .unset] [(.ref b19), (.ref b19), (.ref b1)]))
    have f25 : 0 ≤ h19.size := (Nat.le_trans (Nat.le_trans (Nat.le_trans (Nat.zero_le _) E1.1) Kc2.1) E19.1)
    obtain ⟨a24, T24, h24, k24, X24, e24, E24, hS24, hk24, hZ24, hown24, st24⟩ := ldcS (s := s) (vm0 := s.vm) X19 hx hZ hown (hw _ (List.mem_of_getElem? (i := 121) rfl)) (fun a ha => hw a ((by decide +kernel : ∀ a ∈ Bundle.stringAtoms, a ∈ tables_1) a ha)) e19 hS0 f25 (g := (mkF m 29 #[.val (.int i0), .val (.long i1), .second, .val (.long i2), .second, .val (.long i3), .second, .val (.int (i0 &&& (3 : Int32))), .val (.ref b1), .val (.long (0 : Int64)), .second, .unset] [(.ref b19), (.ref b19), (.ref b1)])) rfl (hb hby at_29) (n := 4) (by decide) (by decide) (by decide) (by decide)
    refine OGo.by st24 ?_
    have K24 : Keep h0 h24 [] := (K19).ext E24
    show OGo p e below _ (T24.setTop (mkF m 31 #[.val (.int i0), .val (.long i1), .second, .val (.long i2), .second, .val (.long i3), .second, .val (.int (i0 &&& (3 : Int32))), .val (.ref b1), .val (.long (0 : Int64)), .second, .unset] [(.ref a24), (.ref b19), (.ref b19), (.ref b1)]))
    refine OGo.by (fun _ k => XS.lloadN X24.here hx rfl (hb hby at_31) rfl k) ?_
    show OGo p e below _ (T24.setTop (mkF m 32 #[.val (.int i0), .val (.long i1), .second, .val (.long i2), .second, .val (.long i3), .second, .val (.int (i0 &&& (3 : Int32))), .val (.ref b1), .val (.long (0 : Int64)), .second, .unset] [(.long i1), (.ref a24), (.ref b19), (.ref b19), (.ref b1)]))
    obtain ⟨a26, T26, h26, k26, X26, e26, E26, hS26, hk26, hZ26, hown26, st26⟩ := ldcS (s := s) (vm0 := T24.vm) X24 hx hZ24 hown24 (hw _ (List.mem_of_getElem? (i := 129) rfl)) (fun a ha => hw a ((by decide +kernel : ∀ a ∈ Bundle.stringAtoms, a ∈ tables_1) a ha)) e24 hS24 hk24 (g := (mkF m 32 #[.val (.int i0), .val (.long i1), .second, .val (.long i2), .second, .val (.long i3), .second, .val (.int (i0 &&& (3 : Int32))), .val (.ref b1), .val (.long (0 : Int64)), .second, .unset] [(.long i1), (.ref a24), (.ref b19), (.ref b19), (.ref b1)])) rfl (hb hby at_32) (n := 4) (by decide) (by decide) (by decide) (by decide)
    refine OGo.by st26 ?_
    have K26 : Keep h0 h26 [] := (K24).ext E26
    show OGo p e below _ (T26.setTop (mkF m 34 #[.val (.int i0), .val (.long i1), .second, .val (.long i2), .second, .val (.long i3), .second, .val (.int (i0 &&& (3 : Int32))), .val (.ref b1), .val (.long (0 : Int64)), .second, .unset] [(.ref a26), (.long i1), (.ref a24), (.ref b19), (.ref b19), (.ref b1)]))
    have f28 : Exa Z h26 b19 "com/example/kept_inbox/keptinbox/UnreadConversation" := ((A19.ext E24).ext E26)
    have f29 : Fld Z h26 b19 "com/example/kept_inbox/keptinbox/UnreadConversation" "id" "Ljava/lang/String;" .null := ((F19_id.ext E24).ext E26)
    have f30 : Fld Z h26 b19 "com/example/kept_inbox/keptinbox/UnreadConversation" "waiting" "J" (.long (0 : Int64)) := ((F19_waiting.ext E24).ext E26)
    have f31 : Fld Z h26 b19 "com/example/kept_inbox/keptinbox/UnreadConversation" "newestTitle" "Ljava/lang/String;" .null := ((F19_newestTitle.ext E24).ext E26)
    obtain ⟨_, _, ⟨T27, L27, k27, n27⟩, -, X27, ⟨Lc27, hQ27, l27, y27, z27⟩, st27⟩ := X26.specialBack hx (y := (⟨"com/example/kept_inbox/keptinbox/UnreadConversation", "<init>", "(Ljava/lang/String;JLjava/lang/String;)V"⟩ : MethodName)) rfl hown26 (mvT hZ26 (hw _ (List.mem_of_getElem? (i := 130) rfl))) (mvT hZ26 (hw _ (List.mem_of_getElem? (i := 131) rfl))) (mvT hZ26 (hw _ (List.mem_of_getElem? (i := 132) rfl))) (by decide) (backOf (W := 2) (rm16 l Z av0 hw [] b19 a24 i1 a26 h26 n0 (Nat.le_trans Z0 K26.1) f28 f29 f30 f31 g_b19) hZ26 (hw _ (List.mem_of_getElem? (i := 132) rfl)) (hw _ (List.mem_of_getElem? (i := 120) rfl)) (by decide) (by decide)) (g := (mkF m 34 #[.val (.int i0), .val (.long i1), .second, .val (.long i2), .second, .val (.long i3), .second, .val (.int (i0 &&& (3 : Int32))), .val (.ref b1), .val (.long (0 : Int64)), .second, .unset] [(.ref a26), (.long i1), (.ref a24), (.ref b19), (.ref b19), (.ref b1)])) rfl (by rw [hml]; rfl) (Steps.refl _) (a := b19) (argsL := [(.ref a24), (.long i1), (.ref a26)]) (rest := [(.ref b19), (.ref b1)]) (lenOf own_pd22 rfl) rfl (by show 2 * 0 + _ ≤ _; exact Nat.le_of_eq rfl) (hb hby at_34) (fun _ _ => ⟨rfl, e26, (by decide : 6 + 0 ≤ _), (by decide : 22 + 0 ≤ _)⟩)
    dsimp only [Pt.U, Pt.locs, Pt.cells, Pt.slots] at X27 l27 y27 z27 st27 hQ27
    subst l27 y27 z27
    obtain ⟨rfl, N27q, Kc27, G27_0, G27_1⟩ := hQ27
    have N27 := Fr.app N2 N27q
    have K27 : Keep h0 T27.heap [] := (K26).trans Kc27 (allS (P := fun x => x ∈ ([] : List Addr) ∨ h0.size ≤ x) (Or.inr sz_b19) (all0 (P := fun x => x ∈ ([] : List Addr) ∨ h0.size ≤ x)))
    refine OGo.of st27 ?_
    show OGo p e below _ (T27.setTop (mkF m 37 #[.val (.int i0), .val (.long i1), .second, .val (.long i2), .second, .val (.long i3), .second, .val (.int (i0 &&& (3 : Int32))), .val (.ref b1), .val (.long (0 : Int64)), .second, .unset] [(.ref b19), (.ref b1)]))
    have f33 : Exa Z T27.heap b1 "java/util/ArrayList" := ((((G2_0.ext E19).ext E24).ext E26).keep Kc27)
    have f34 : Fld Z T27.heap b1 "java/util/AbstractList" "modCount" "I" (.int (0 : Int32)) := ((((G2_1.ext E19).ext E24).ext E26).keep Kc27 (ninS ne_b1_b19 nin0))
    have f35 : Fld Z T27.heap b1 "java/util/ArrayList" "size" "I" (.int (0 : Int32)) := ((((G2_2.ext E19).ext E24).ext E26).keep Kc27 (ninS ne_b1_b19 nin0))
    have f36 : Fld Z T27.heap b1 "java/util/ArrayList" "elementData" "[Ljava/lang/Object;" (.ref w) := ((((G2_3.ext E19).ext E24).ext E26).keep Kc27 (ninS ne_b1_b19 nin0))
    have f37 : Arv Z T27.heap w ke (.object "java/lang/Object") (0 : Int32) [] .null := ((((f20.ext E19).ext E24).ext E26).keep Kc27 (ninS ne_w_b19 nin0))
    have f38 : Old Z n0 T27.heap := (((((f3.keep Kc2 (allS g_b1 all0)).ext E19).ext E24).ext E26).keep Kc27 (allS g_b19 all0))
    obtain ⟨cq32, kq32, q32a, q32b, q32c⟩ := isOf hZ26 rfl f33
    obtain ⟨_, _, ⟨T32, L32, k32, n32⟩, -, X32, ⟨Lc32, hQ32, l32, y32, z32⟩, st32⟩ := X27.virtualBack hx (y := (⟨"java/util/ArrayList", "add", "(Ljava/lang/Object;)Z"⟩ : MethodName)) (z := (⟨"java/util/ArrayList", "add", "(Ljava/lang/Object;)Z"⟩ : MethodName)) hown26 (mvT hZ26 (hw _ (List.mem_of_getElem? (i := 140) rfl))) (mvT hZ26 (hw _ (List.mem_of_getElem? (i := 141) rfl))) (notFace_of_selects (args := #[]) (mvT hZ26 (hw _ (List.mem_of_getElem? (i := 143) rfl)))) (mvT hZ26 (hw _ (List.mem_of_getElem? (i := 143) rfl))) (mvT hZ26 (hw _ (List.mem_of_getElem? (i := 142) rfl))) (by decide) (backOf (W := 0) (rm_add0 l Z av0 hw [] b1 b19 w ke (0 : Int32) T27.heap n0 (Nat.le_trans Z0 K27.1) f33 f34 f35 f36 f37 f38 S_d g_b1 G27_0 ne_w_b1) hZ26 (hw _ (List.mem_of_getElem? (i := 144) rfl)) (hw _ (List.mem_of_getElem? (i := 2) rfl)) (by decide) (by decide)) q32a q32c (g := (mkF m 37 #[.val (.int i0), .val (.long i1), .second, .val (.long i2), .second, .val (.long i3), .second, .val (.int (i0 &&& (3 : Int32))), .val (.ref b1), .val (.long (0 : Int64)), .second, .unset] [(.ref b19), (.ref b1)])) rfl (by rw [hml]; rfl) (Steps.refl _) (argsL := [(.ref b19)]) (rest := []) (lenOf own_pd23 rfl) rfl (by show 2 * 0 + _ ≤ _; exact Nat.le_of_eq rfl) (hb hby at_37) (fun _ _ => ⟨rfl, rfl, (by decide : 6 + 1 ≤ _), (by decide : 22 + 10 ≤ _)⟩)
    dsimp only [Pt.U, Pt.locs, Pt.cells, Pt.slots] at X32 l32 y32 z32 st32 hQ32
    subst l32 y32 z32
    obtain ⟨b_32, kb_32, rfl, N32q, Kc32, G32_0, G32_1, G32_2, G32_3, G32_4, G32_5, G32_6, G32_7, G32_8⟩ := hQ32
    have N32 := Fr.app N27 N32q
    have ne_w_b_32 : w ≠ b_32 := Nat.ne_of_lt (Nat.lt_of_lt_of_le f37.lt G32_0)
    have f39 : Exa Z T27.heap wl "java/util/ImmutableCollections$ListN" := ((((f21.ext E19).ext E24).ext E26).keep Kc27)
    have ne_wl_b_32 : wl ≠ b_32 := Nat.ne_of_lt (Nat.lt_of_lt_of_le f39.lt G32_0)
    have f40 : Arv Z T27.heap t kt (.object "java/lang/Object") (0 : Int32) [] .null := ((((f22.ext E19).ext E24).ext E26).keep Kc27 (ninS ne_t_b19 nin0))
    have ne_t_b_32 : t ≠ b_32 := Nat.ne_of_lt (Nat.lt_of_lt_of_le f40.lt G32_0)
    have f41 : Exa Z T27.heap we "java/lang/Object" := ((((f23.ext E19).ext E24).ext E26).keep Kc27)
    have ne_we_b_32 : we ≠ b_32 := Nat.ne_of_lt (Nat.lt_of_lt_of_le f41.lt G32_0)
    have ne_b1_b_32 : b1 ≠ b_32 := Nat.ne_of_lt (Nat.lt_of_lt_of_le f33.lt G32_0)
    have ne_b19_b_32 : b19 ≠ b_32 := Nat.ne_of_lt (Nat.lt_of_lt_of_le G27_0.lt G32_0)
    have g_b_32 : n0 ≤ b_32 := Nat.le_trans (Nat.le_trans Z0 K27.1) G32_0
    have sz_b_32 : h0.size ≤ b_32 := Nat.le_trans K27.1 G32_0
    have K32 : Keep h0 T32.heap [] := (K27).trans Kc32 (allS (P := fun x => x ∈ ([] : List Addr) ∨ h0.size ≤ x) (Or.inr sz_b1) (all0 (P := fun x => x ∈ ([] : List Addr) ∨ h0.size ≤ x)))
    refine OGo.of st32 ?_
    show OGo p e below _ (T32.setTop (mkF m 40 #[.val (.int i0), .val (.long i1), .second, .val (.long i2), .second, .val (.long i3), .second, .val (.int (i0 &&& (3 : Int32))), .val (.ref b1), .val (.long (0 : Int64)), .second, .unset] [(.int (1 : Int32))]))
    refine OGo.by (fun _ k => XS.pop X32.here hx rfl (hb hby at_40) rfl rfl k) ?_
    show OGo p e below _ (T32.setTop (mkF m 41 #[.val (.int i0), .val (.long i1), .second, .val (.long i2), .second, .val (.long i3), .second, .val (.int (i0 &&& (3 : Int32))), .val (.ref b1), .val (.long (0 : Int64)), .second, .unset] []))
    refine OGo.by (fun _ k => XS.lload X32.here hx rfl (hb hby at_41) rfl k) ?_
    show OGo p e below _ (T32.setTop (mkF m 43 #[.val (.int i0), .val (.long i1), .second, .val (.long i2), .second, .val (.long i3), .second, .val (.int (i0 &&& (3 : Int32))), .val (.ref b1), .val (.long (0 : Int64)), .second, .unset] [(.long (0 : Int64))]))
    refine OGo.by (fun _ k => XS.lloadN X32.here hx rfl (hb hby at_43) rfl k) ?_
    show OGo p e below _ (T32.setTop (mkF m 44 #[.val (.int i0), .val (.long i1), .second, .val (.long i2), .second, .val (.long i3), .second, .val (.int (i0 &&& (3 : Int32))), .val (.ref b1), .val (.long (0 : Int64)), .second, .unset] [(.long i1), (.long (0 : Int64))]))
    refine OGo.by (fun _ k => XS.ladd X32.here hx rfl (hb hby at_44) rfl k) ?_
    show OGo p e below _ (T32.setTop (mkF m 45 #[.val (.int i0), .val (.long i1), .second, .val (.long i2), .second, .val (.long i3), .second, .val (.int (i0 &&& (3 : Int32))), .val (.ref b1), .val (.long (0 : Int64)), .second, .unset] [(.long ((0 : Int64) + i1))]))
    refine OGo.by (fun _ k => XS.lstore X32.here hx rfl (hb hby at_45) rfl (l' := #[.val (.int i0), .val (.long i1), .second, .val (.long i2), .second, .val (.long i3), .second, .val (.int (i0 &&& (3 : Int32))), .val (.ref b1), .val (.long ((0 : Int64) + i1)), .second, .unset]) rfl k) ?_
    show OGo p e below _ (T32.setTop (mkF m 47 #[.val (.int i0), .val (.long i1), .second, .val (.long i2), .second, .val (.long i3), .second, .val (.int (i0 &&& (3 : Int32))), .val (.ref b1), .val (.long ((0 : Int64) + i1)), .second, .unset] []))
    refine OGo.by (fun _ k => XS.iload X32.here hx rfl (hb hby at_47) rfl k) ?_
    show OGo p e below _ (T32.setTop (mkF m 49 #[.val (.int i0), .val (.long i1), .second, .val (.long i2), .second, .val (.long i3), .second, .val (.int (i0 &&& (3 : Int32))), .val (.ref b1), .val (.long ((0 : Int64) + i1)), .second, .unset] [(.int (i0 &&& (3 : Int32)))]))
    refine OGo.by (fun _ k => XS.iconst X32.here hx rfl (hb hby at_49) k) ?_
    show OGo p e below _ (T32.setTop (mkF m 50 #[.val (.int i0), .val (.long i1), .second, .val (.long i2), .second, .val (.long i3), .second, .val (.int (i0 &&& (3 : Int32))), .val (.ref b1), .val (.long ((0 : Int64) + i1)), .second, .unset] [(.int (2 : Int32)), (.int (i0 &&& (3 : Int32)))]))
    by_cases hc50_42 : (i0 &&& (3 : Int32)) < (2 : Int32)
    · refine OGo.by (fun _ k => XS.icmpYes X32.here hx rfl (pc0 := 50) (pc' := 77) rfl (hb hby at_50) rfl (tlt hc50_42).1 (by decide) (by decide) k) ?_
      show OGo p e below _ (T32.setTop (mkF m 77 #[.val (.int i0), .val (.long i1), .second, .val (.long i2), .second, .val (.long i3), .second, .val (.int (i0 &&& (3 : Int32))), .val (.ref b1), .val (.long ((0 : Int64) + i1)), .second, .unset] []))
      refine OGo.by (fun _ k => XS.iload X32.here hx rfl (hb hby at_77) rfl k) ?_
      show OGo p e below _ (T32.setTop (mkF m 79 #[.val (.int i0), .val (.long i1), .second, .val (.long i2), .second, .val (.long i3), .second, .val (.int (i0 &&& (3 : Int32))), .val (.ref b1), .val (.long ((0 : Int64) + i1)), .second, .unset] [(.int (i0 &&& (3 : Int32)))]))
      refine OGo.by (fun _ k => XS.iconst X32.here hx rfl (hb hby at_79) k) ?_
      show OGo p e below _ (T32.setTop (mkF m 80 #[.val (.int i0), .val (.long i1), .second, .val (.long i2), .second, .val (.long i3), .second, .val (.int (i0 &&& (3 : Int32))), .val (.ref b1), .val (.long ((0 : Int64) + i1)), .second, .unset] [(.int (3 : Int32)), (.int (i0 &&& (3 : Int32)))]))
      refine OGo.by (fun _ k => XS.icmpYes X32.here hx rfl (pc0 := 80) (pc' := 109) rfl (hb hby at_80) rfl (tlt (own_lt23 hc50_42)).1 (by decide) (by decide) k) ?_
      show OGo p e below _ (T32.setTop (mkF m 109 #[.val (.int i0), .val (.long i1), .second, .val (.long i2), .second, .val (.long i3), .second, .val (.int (i0 &&& (3 : Int32))), .val (.ref b1), .val (.long ((0 : Int64) + i1)), .second, .unset] []))
      obtain ⟨T43, h43, X43, e43, E43, A43, D43, U43, st43⟩ := newO X32 hx hZ26 hown26 (hw _ (List.mem_of_getElem? (i := 26) rfl)) (hw _ (List.mem_of_getElem? (i := 27) rfl)) (hw _ (List.mem_of_getElem? (i := 28) rfl)) rfl (g := (mkF m 109 #[.val (.int i0), .val (.long i1), .second, .val (.long i2), .second, .val (.long i3), .second, .val (.int (i0 &&& (3 : Int32))), .val (.ref b1), .val (.long ((0 : Int64) + i1)), .second, .unset] [])) rfl (hb hby at_109) (by decide) (by decide)
      obtain ⟨b43, g43⟩ : ∃ z, z = T32.heap.size := ⟨_, rfl⟩
      rw [← g43] at A43 D43 U43 st43
      have f44 : Arv Z T32.heap w ke (.object "java/lang/Object") (0 : Int32) [] .null := (f37.keep Kc32 (ninS ne_w_b1 nin0))
      have ne_w_b43 : w ≠ b43 := Nat.ne_of_lt (Nat.lt_of_lt_of_le f44.lt (Nat.le_of_eq g43.symm))
      have f45 : Exa Z T32.heap wl "java/util/ImmutableCollections$ListN" := (f39.keep Kc32)
      have ne_wl_b43 : wl ≠ b43 := Nat.ne_of_lt (Nat.lt_of_lt_of_le f45.lt (Nat.le_of_eq g43.symm))
      have f46 : Arv Z T32.heap t kt (.object "java/lang/Object") (0 : Int32) [] .null := (f40.keep Kc32 (ninS ne_t_b1 nin0))
      have ne_t_b43 : t ≠ b43 := Nat.ne_of_lt (Nat.lt_of_lt_of_le f46.lt (Nat.le_of_eq g43.symm))
      have f47 : Exa Z T32.heap we "java/lang/Object" := (f41.keep Kc32)
      have ne_we_b43 : we ≠ b43 := Nat.ne_of_lt (Nat.lt_of_lt_of_le f47.lt (Nat.le_of_eq g43.symm))
      have ne_b1_b43 : b1 ≠ b43 := Nat.ne_of_lt (Nat.lt_of_lt_of_le G32_2.lt (Nat.le_of_eq g43.symm))
      have f48 : Exa Z T32.heap b19 "com/example/kept_inbox/keptinbox/UnreadConversation" := (G27_0.keep Kc32)
      have ne_b19_b43 : b19 ≠ b43 := Nat.ne_of_lt (Nat.lt_of_lt_of_le f48.lt (Nat.le_of_eq g43.symm))
      have ne_b_32_b43 : b_32 ≠ b43 := Nat.ne_of_lt (Nat.lt_of_lt_of_le G32_6.lt (Nat.le_of_eq g43.symm))
      have g_b43 : n0 ≤ b43 := Nat.le_trans (Nat.le_trans Z0 K32.1) (Nat.le_of_eq g43.symm)
      have sz_b43 : h0.size ≤ b43 := Nat.le_trans K32.1 (Nat.le_of_eq g43.symm)
      refine OGo.by st43 ?_
      have K43 : Keep h0 h43 [] := (K32).ext E43
      have F43_conversations : Fld Z h43 b43 "com/example/kept_inbox/keptinbox/Unread" "conversations" "Ljava/util/List;" .null := D43 (Or.inr (hw _ (List.mem_of_getElem? (i := 68) rfl))) (ty := (.object "java/util/List")) (by decide)
      show OGo p e below _ (T43.setTop (mkF m 112 #[.val (.int i0), .val (.long i1), .second, .val (.long i2), .second, .val (.long i3), .second, .val (.int (i0 &&& (3 : Int32))), .val (.ref b1), .val (.long ((0 : Int64) + i1)), .second, .unset] [(.ref b43)]))
      refine OGo.by (fun _ k => XS.dup X43.here hx rfl (hb hby at_112) rfl rfl k) ?_
      show OGo p e below _ (T43.setTop (mkF m 113 #[.val (.int i0), .val (.long i1), .second, .val (.long i2), .second, .val (.long i3), .second, .val (.int (i0 &&& (3 : Int32))), .val (.ref b1), .val (.long ((0 : Int64) + i1)), .second, .unset] [(.ref b43), (.ref b43)]))
      refine OGo.by (fun _ k => XS.aload X43.here hx rfl (hb hby at_113) rfl rfl k) ?_
      show OGo p e below _ (T43.setTop (mkF m 115 #[.val (.int i0), .val (.long i1), .second, .val (.long i2), .second, .val (.long i3), .second, .val (.int (i0 &&& (3 : Int32))), .val (.ref b1), .val (.long ((0 : Int64) + i1)), .second, .unset] [(.ref b1), (.ref b43), (.ref b43)]))
      have f50 : Exa Z h43 b1 "java/util/ArrayList" := (G32_2.ext E43)
      have f51 : Fld Z h43 b1 "java/util/ArrayList" "size" "I" (.int (1 : Int32)) := (G32_4.ext E43)
      have f52 : Fld Z h43 b1 "java/util/ArrayList" "elementData" "[Ljava/lang/Object;" (.ref b_32) := (G32_5.ext E43)
      have f53 : Arv Z h43 b_32 kb_32 (.object "java/lang/Object") (10 : Int32) [(.ref b19), .null, .null, .null, .null, .null, .null, .null, .null, .null] .null := (G32_6.ext E43)
      have f54 : Exa Z h43 b_32 "[Ljava/lang/Object;" := (G32_7.ext E43)
      have f55 : Exa Z h43 b19 "com/example/kept_inbox/keptinbox/UnreadConversation" := (f48.ext E43)
      have f56 : Old Z n0 h43 := ((f38.keep Kc32 (allS g_b1 all0)).ext E43)
      obtain ⟨_, _, ⟨T49, L49, k49, n49⟩, -, X49, ⟨Lc49, hQ49, l49, y49, z49⟩, st49⟩ := X43.specialBack hx (y := (⟨"com/example/kept_inbox/keptinbox/Unread", "<init>", "(Ljava/util/List;)V"⟩ : MethodName)) rfl hown26 (mvT hZ26 (hw _ (List.mem_of_getElem? (i := 29) rfl))) (mvT hZ26 (hw _ (List.mem_of_getElem? (i := 30) rfl))) (mvT hZ26 (hw _ (List.mem_of_getElem? (i := 31) rfl))) (by decide) (backOf (W := 1) (rm_un1 l Z av0 hw [] b43 b1 b_32 kb_32 mr b19 we h43 n0 (Nat.le_trans Z0 K43.1) f50 f51 f52 f53 f54 M_0 f55 f56 S_e A43 F43_conversations g_b43) hZ26 (hw _ (List.mem_of_getElem? (i := 31) rfl)) (hw _ (List.mem_of_getElem? (i := 28) rfl)) (by decide) (by decide)) (g := (mkF m 115 #[.val (.int i0), .val (.long i1), .second, .val (.long i2), .second, .val (.long i3), .second, .val (.int (i0 &&& (3 : Int32))), .val (.ref b1), .val (.long ((0 : Int64) + i1)), .second, .unset] [(.ref b1), (.ref b43), (.ref b43)])) rfl (by rw [hml]; rfl) (Steps.refl _) (a := b43) (argsL := [(.ref b1)]) (rest := [(.ref b43)]) (lenOf own_pd21 rfl) rfl (by show 2 * 0 + _ ≤ _; exact Nat.le_of_eq rfl) (hb hby at_115) (fun _ _ => ⟨rfl, e43, (by decide : 8 + 2 ≤ _), (by decide : 33 + 3 ≤ _)⟩)
      dsimp only [Pt.U, Pt.locs, Pt.cells, Pt.slots] at X49 l49 y49 z49 st49 hQ49
      subst l49 y49 z49
      obtain ⟨b_49, rfl, N49q, Kc49, G49_0, G49_1, G49_2, G49_3, G49_4, G49_5, G49_6⟩ := hQ49
      have N49 := Fr.app N32 N49q
      have f57 : Arv Z h43 w ke (.object "java/lang/Object") (0 : Int32) [] .null := (f44.ext E43)
      have ne_w_b_49 : w ≠ b_49 := Nat.ne_of_lt (Nat.lt_of_lt_of_le f57.lt G49_0)
      have f58 : Exa Z h43 wl "java/util/ImmutableCollections$ListN" := (f45.ext E43)
      have ne_wl_b_49 : wl ≠ b_49 := Nat.ne_of_lt (Nat.lt_of_lt_of_le f58.lt G49_0)
      have f59 : Arv Z h43 t kt (.object "java/lang/Object") (0 : Int32) [] .null := (f46.ext E43)
      have ne_t_b_49 : t ≠ b_49 := Nat.ne_of_lt (Nat.lt_of_lt_of_le f59.lt G49_0)
      have f60 : Exa Z h43 we "java/lang/Object" := (f47.ext E43)
      have ne_we_b_49 : we ≠ b_49 := Nat.ne_of_lt (Nat.lt_of_lt_of_le f60.lt G49_0)
      have ne_b1_b_49 : b1 ≠ b_49 := Nat.ne_of_lt (Nat.lt_of_lt_of_le f50.lt G49_0)
      have ne_b19_b_49 : b19 ≠ b_49 := Nat.ne_of_lt (Nat.lt_of_lt_of_le f55.lt G49_0)
      have ne_b_32_b_49 : b_32 ≠ b_49 := Nat.ne_of_lt (Nat.lt_of_lt_of_le f53.lt G49_0)
      have ne_b43_b_49 : b43 ≠ b_49 := Nat.ne_of_lt (Nat.lt_of_lt_of_le A43.lt G49_0)
      have g_b_49 : n0 ≤ b_49 := Nat.le_trans (Nat.le_trans Z0 K43.1) G49_0
      have sz_b_49 : h0.size ≤ b_49 := Nat.le_trans K43.1 G49_0
      have K49 : Keep h0 T49.heap [] := (K43).trans Kc49 (allS (P := fun x => x ∈ ([] : List Addr) ∨ h0.size ≤ x) (Or.inr sz_b43) (all0 (P := fun x => x ∈ ([] : List Addr) ∨ h0.size ≤ x)))
      refine OGo.of st49 ?_
      show OGo p e below _ (T49.setTop (mkF m 118 #[.val (.int i0), .val (.long i1), .second, .val (.long i2), .second, .val (.long i3), .second, .val (.int (i0 &&& (3 : Int32))), .val (.ref b1), .val (.long ((0 : Int64) + i1)), .second, .unset] [(.ref b43)]))
      refine OGo.by (fun _ k => XS.astore X49.here hx rfl (hb hby at_118) rfl rfl (l' := #[.val (.int i0), .val (.long i1), .second, .val (.long i2), .second, .val (.long i3), .second, .val (.int (i0 &&& (3 : Int32))), .val (.ref b1), .val (.long ((0 : Int64) + i1)), .second, .val (.ref b43)]) rfl k) ?_
      show OGo p e below _ (T49.setTop (mkF m 120 #[.val (.int i0), .val (.long i1), .second, .val (.long i2), .second, .val (.long i3), .second, .val (.int (i0 &&& (3 : Int32))), .val (.ref b1), .val (.long ((0 : Int64) + i1)), .second, .val (.ref b43)] []))
      refine OGo.by (fun _ k => XS.aload X49.here hx rfl (hb hby at_120) rfl rfl k) ?_
      show OGo p e below _ (T49.setTop (mkF m 122 #[.val (.int i0), .val (.long i1), .second, .val (.long i2), .second, .val (.long i3), .second, .val (.int (i0 &&& (3 : Int32))), .val (.ref b1), .val (.long ((0 : Int64) + i1)), .second, .val (.ref b43)] [(.ref b43)]))
      have f62 : Old Z n0 T49.heap := (f56.keep Kc49 (allS g_b43 all0))
      have f63 : Exa Z T49.heap b19 "com/example/kept_inbox/keptinbox/UnreadConversation" := (f55.keep Kc49)
      have f64 : Fld Z T49.heap b19 "com/example/kept_inbox/keptinbox/UnreadConversation" "waiting" "J" (.long i1) := (((G27_1.keep Kc32 (ninS (Ne.symm ne_b1_b19) nin0)).ext E43).keep Kc49 (ninS ne_b19_b43 nin0))
      obtain ⟨cq61, kq61, q61a, q61b, q61c⟩ := isOf hZ26 rfl G49_5
      obtain ⟨_, _, ⟨T61, L61, k61, n61⟩, -, X61, ⟨Lc61, hQ61, l61, y61, z61⟩, st61⟩ := X49.virtualBack hx (y := (⟨"com/example/kept_inbox/keptinbox/Unread", "total", "()J"⟩ : MethodName)) (z := (⟨"com/example/kept_inbox/keptinbox/Unread", "total", "()J"⟩ : MethodName)) hown26 (mvT hZ26 (hw _ (List.mem_of_getElem? (i := 69) rfl))) (mvT hZ26 (hw _ (List.mem_of_getElem? (i := 70) rfl))) (notFace_of_selects (args := #[]) (mvT hZ26 (hw _ (List.mem_of_getElem? (i := 72) rfl)))) (mvT hZ26 (hw _ (List.mem_of_getElem? (i := 72) rfl))) (mvT hZ26 (hw _ (List.mem_of_getElem? (i := 71) rfl))) (by decide) (backOf (W := 0) (rm_tot1 l Z av0 hw [] b43 b_49 we b19 i1 T49.heap n0 (Nat.le_trans Z0 K49.1) G49_6 G49_2 G49_3 G49_4 f62 S_e f63 f64) hZ26 (hw _ (List.mem_of_getElem? (i := 73) rfl)) (hw _ (List.mem_of_getElem? (i := 28) rfl)) (by decide) (by decide)) q61a q61c (g := (mkF m 122 #[.val (.int i0), .val (.long i1), .second, .val (.long i2), .second, .val (.long i3), .second, .val (.int (i0 &&& (3 : Int32))), .val (.ref b1), .val (.long ((0 : Int64) + i1)), .second, .val (.ref b43)] [(.ref b43)])) rfl (by rw [hml]; rfl) (Steps.refl _) (argsL := []) (rest := []) (lenOf own_pd20 rfl) rfl (by show 2 * 0 + _ ≤ _; exact Nat.le_of_eq rfl) (hb hby at_122) (fun _ _ => ⟨rfl, rfl, (by decide : 10 + 1 ≤ _), (by decide : 36 + 4 ≤ _)⟩)
      dsimp only [Pt.U, Pt.locs, Pt.cells, Pt.slots] at X61 l61 y61 z61 st61 hQ61
      subst l61 y61 z61
      obtain ⟨rfl, N61q, Kc61⟩ := hQ61
      have N61 := Fr.app N49 N61q
      have K61 : Keep h0 T61.heap [] := (K49).trans Kc61 (all0 (P := fun x => x ∈ ([] : List Addr) ∨ h0.size ≤ x))
      refine OGo.of st61 ?_
      show OGo p e below _ (T61.setTop (mkF m 125 #[.val (.int i0), .val (.long i1), .second, .val (.long i2), .second, .val (.long i3), .second, .val (.int (i0 &&& (3 : Int32))), .val (.ref b1), .val (.long ((0 : Int64) + i1)), .second, .val (.ref b43)] [(.long ((0 : Int64) + i1))]))
      refine OGo.by (fun _ k => XS.lload X61.here hx rfl (hb hby at_125) rfl k) ?_
      show OGo p e below _ (T61.setTop (mkF m 127 #[.val (.int i0), .val (.long i1), .second, .val (.long i2), .second, .val (.long i3), .second, .val (.int (i0 &&& (3 : Int32))), .val (.ref b1), .val (.long ((0 : Int64) + i1)), .second, .val (.ref b43)] [(.long ((0 : Int64) + i1)), (.long ((0 : Int64) + i1))]))
      refine OGo.by (fun _ k => XS.lcmp X61.here hx rfl (hb hby at_127) rfl k) ?_
      show OGo p e below _ (T61.setTop (mkF m 128 #[.val (.int i0), .val (.long i1), .second, .val (.long i2), .second, .val (.long i3), .second, .val (.int (i0 &&& (3 : Int32))), .val (.ref b1), .val (.long ((0 : Int64) + i1)), .second, .val (.ref b43)] [(.int (lcmpW ((0 : Int64) + i1) ((0 : Int64) + i1)))]))
      refine OGo.by (fun _ k => XS.ifNo X61.here hx rfl (hb hby at_128) rfl ((if0 _ _).trans (teq ((lw_eq _ _).mpr (rfl : ((0 : Int64) + i1) = ((0 : Int64) + i1)))).2) k) ?_
      show OGo p e below _ (T61.setTop (mkF m 131 #[.val (.int i0), .val (.long i1), .second, .val (.long i2), .second, .val (.long i3), .second, .val (.int (i0 &&& (3 : Int32))), .val (.ref b1), .val (.long ((0 : Int64) + i1)), .second, .val (.ref b43)] []))
      refine OGo.by (fun _ k => XS.iconst X61.here hx rfl (hb hby at_131) k) ?_
      show OGo p e below _ (T61.setTop (mkF m 132 #[.val (.int i0), .val (.long i1), .second, .val (.long i2), .second, .val (.long i3), .second, .val (.int (i0 &&& (3 : Int32))), .val (.ref b1), .val (.long ((0 : Int64) + i1)), .second, .val (.ref b43)] [(.int (1 : Int32))]))
      refine OGo.by (fun _ k => XS.goto X61.here hx rfl (pc0 := 132) (pc' := 136) rfl (hb hby at_132) (by decide) (by decide) k) ?_
      show OGo p e below _ (T61.setTop (mkF m 136 #[.val (.int i0), .val (.long i1), .second, .val (.long i2), .second, .val (.long i3), .second, .val (.int (i0 &&& (3 : Int32))), .val (.ref b1), .val (.long ((0 : Int64) + i1)), .second, .val (.ref b43)] [(.int (1 : Int32))]))
      have f65 : k26 ≤ T61.heap.size := (Nat.le_trans (Nat.le_trans (Nat.le_trans (Nat.le_trans (Nat.le_trans hk26 Kc27.1) Kc32.1) E43.1) Kc49.1) Kc61.1)
      obtain ⟨fs, hr, hrun, hended, hRE⟩ := Stand.leaveW (s := s) (vm₁ := T26.vm) X61 hS26 (by exact f65) (v := some (.int (1 : Int32))) (fun h => by rw [Bd.returns] at h; cases h)
      refine OGo.ret (retN X61 hx (t := .boolean) Bd.returns (by simp) (hb hby at_136) hr) hrun hended ⟨_, _, rfl, ?_, hRE.1, hRE.2.1, hRE.2.2.1, hRE.2.2.2.mono (by decide) (by decide)⟩
      show Q_rm0 Z i0 i1 i2 i3 w ke wl t kt we mr h0 n0 _ T61.heap _
      exact ⟨rfl, N61⟩
    · refine OGo.by (fun _ k => XS.icmpNo X32.here hx rfl (hb hby at_50) rfl (flt hc50_42).1 k) ?_
      show OGo p e below _ (T32.setTop (mkF m 53 #[.val (.int i0), .val (.long i1), .second, .val (.long i2), .second, .val (.long i3), .second, .val (.int (i0 &&& (3 : Int32))), .val (.ref b1), .val (.long ((0 : Int64) + i1)), .second, .unset] []))
      refine OGo.by (fun _ k => XS.aload X32.here hx rfl (hb hby at_53) rfl rfl k) ?_
      show OGo p e below _ (T32.setTop (mkF m 55 #[.val (.int i0), .val (.long i1), .second, .val (.long i2), .second, .val (.long i3), .second, .val (.int (i0 &&& (3 : Int32))), .val (.ref b1), .val (.long ((0 : Int64) + i1)), .second, .unset] [(.ref b1)]))
      obtain ⟨T66, h66, X66, e66, E66, A66, D66, U66, st66⟩ := newO X32 hx hZ26 hown26 (hw _ (List.mem_of_getElem? (i := 118) rfl)) (hw _ (List.mem_of_getElem? (i := 119) rfl)) (hw _ (List.mem_of_getElem? (i := 120) rfl)) rfl (g := (mkF m 55 #[.val (.int i0), .val (.long i1), .second, .val (.long i2), .second, .val (.long i3), .second, .val (.int (i0 &&& (3 : Int32))), .val (.ref b1), .val (.long ((0 : Int64) + i1)), .second, .unset] [(.ref b1)])) rfl (hb hby at_55) (by decide) (by decide)
      obtain ⟨b66, g66⟩ : ∃ z, z = T32.heap.size := ⟨_, rfl⟩
      rw [← g66] at A66 D66 U66 st66
      have f67 : Arv Z T32.heap w ke (.object "java/lang/Object") (0 : Int32) [] .null := (f37.keep Kc32 (ninS ne_w_b1 nin0))
      have ne_w_b66 : w ≠ b66 := Nat.ne_of_lt (Nat.lt_of_lt_of_le f67.lt (Nat.le_of_eq g66.symm))
      have f68 : Exa Z T32.heap wl "java/util/ImmutableCollections$ListN" := (f39.keep Kc32)
      have ne_wl_b66 : wl ≠ b66 := Nat.ne_of_lt (Nat.lt_of_lt_of_le f68.lt (Nat.le_of_eq g66.symm))
      have f69 : Arv Z T32.heap t kt (.object "java/lang/Object") (0 : Int32) [] .null := (f40.keep Kc32 (ninS ne_t_b1 nin0))
      have ne_t_b66 : t ≠ b66 := Nat.ne_of_lt (Nat.lt_of_lt_of_le f69.lt (Nat.le_of_eq g66.symm))
      have f70 : Exa Z T32.heap we "java/lang/Object" := (f41.keep Kc32)
      have ne_we_b66 : we ≠ b66 := Nat.ne_of_lt (Nat.lt_of_lt_of_le f70.lt (Nat.le_of_eq g66.symm))
      have ne_b1_b66 : b1 ≠ b66 := Nat.ne_of_lt (Nat.lt_of_lt_of_le G32_2.lt (Nat.le_of_eq g66.symm))
      have f71 : Exa Z T32.heap b19 "com/example/kept_inbox/keptinbox/UnreadConversation" := (G27_0.keep Kc32)
      have ne_b19_b66 : b19 ≠ b66 := Nat.ne_of_lt (Nat.lt_of_lt_of_le f71.lt (Nat.le_of_eq g66.symm))
      have ne_b_32_b66 : b_32 ≠ b66 := Nat.ne_of_lt (Nat.lt_of_lt_of_le G32_6.lt (Nat.le_of_eq g66.symm))
      have g_b66 : n0 ≤ b66 := Nat.le_trans (Nat.le_trans Z0 K32.1) (Nat.le_of_eq g66.symm)
      have sz_b66 : h0.size ≤ b66 := Nat.le_trans K32.1 (Nat.le_of_eq g66.symm)
      refine OGo.by st66 ?_
      have K66 : Keep h0 h66 [] := (K32).ext E66
      have F66_id : Fld Z h66 b66 "com/example/kept_inbox/keptinbox/UnreadConversation" "id" "Ljava/lang/String;" .null := D66 (Or.inr (hw _ (List.mem_of_getElem? (i := 135) rfl))) (ty := (.object "java/lang/String")) (by decide)
      have F66_waiting : Fld Z h66 b66 "com/example/kept_inbox/keptinbox/UnreadConversation" "waiting" "J" (.long (0 : Int64)) := D66 (Or.inr (hw _ (List.mem_of_getElem? (i := 137) rfl))) (ty := .long) (by decide)
      have F66_newestTitle : Fld Z h66 b66 "com/example/kept_inbox/keptinbox/UnreadConversation" "newestTitle" "Ljava/lang/String;" .null := D66 (Or.inr (hw _ (List.mem_of_getElem? (i := 139) rfl))) (ty := (.object "java/lang/String")) (by decide)
      show OGo p e below _ (T66.setTop (mkF m 58 #[.val (.int i0), .val (.long i1), .second, .val (.long i2), .second, .val (.long i3), .second, .val (.int (i0 &&& (3 : Int32))), .val (.ref b1), .val (.long ((0 : Int64) + i1)), .second, .unset] [(.ref b66), (.ref b1)]))
      refine OGo.by (fun _ k => XS.dup X66.here hx rfl (hb hby at_58) rfl rfl k) ?_
      show OGo p e below _ (T66.setTop (mkF m 59 #[.val (.int i0), .val (.long i1), .second, .val (.long i2), .second, .val (.long i3), .second, .val (.int (i0 &&& (3 : Int32))), .val (.ref b1), .val (.long ((0 : Int64) + i1)), .second, .unset] [(.ref b66), (.ref b66), (.ref b1)]))
      have f73 : k26 ≤ h66.size := (Nat.le_trans (Nat.le_trans (Nat.le_trans hk26 Kc27.1) Kc32.1) E66.1)
      obtain ⟨a72, T72, h72, k72, X72, e72, E72, hS72, hk72, hZ72, hown72, st72⟩ := ldcS (s := s) (vm0 := T26.vm) X66 hx hZ26 hown26 (hw _ (List.mem_of_getElem? (i := 169) rfl)) (fun a ha => hw a ((by decide +kernel : ∀ a ∈ Bundle.stringAtoms, a ∈ tables_1) a ha)) e66 hS26 f73 (g := (mkF m 59 #[.val (.int i0), .val (.long i1), .second, .val (.long i2), .second, .val (.long i3), .second, .val (.int (i0 &&& (3 : Int32))), .val (.ref b1), .val (.long ((0 : Int64) + i1)), .second, .unset] [(.ref b66), (.ref b66), (.ref b1)])) rfl (hb hby at_59) (n := 4) (by decide) (by decide) (by decide) (by decide)
      refine OGo.by st72 ?_
      have K72 : Keep h0 h72 [] := (K66).ext E72
      show OGo p e below _ (T72.setTop (mkF m 61 #[.val (.int i0), .val (.long i1), .second, .val (.long i2), .second, .val (.long i3), .second, .val (.int (i0 &&& (3 : Int32))), .val (.ref b1), .val (.long ((0 : Int64) + i1)), .second, .unset] [(.ref a72), (.ref b66), (.ref b66), (.ref b1)]))
      refine OGo.by (fun _ k => XS.lloadN X72.here hx rfl (hb hby at_61) rfl k) ?_
      show OGo p e below _ (T72.setTop (mkF m 62 #[.val (.int i0), .val (.long i1), .second, .val (.long i2), .second, .val (.long i3), .second, .val (.int (i0 &&& (3 : Int32))), .val (.ref b1), .val (.long ((0 : Int64) + i1)), .second, .unset] [(.long i2), (.ref a72), (.ref b66), (.ref b66), (.ref b1)]))
      obtain ⟨a74, T74, h74, k74, X74, e74, E74, hS74, hk74, hZ74, hown74, st74⟩ := ldcS (s := s) (vm0 := T72.vm) X72 hx hZ72 hown72 (hw _ (List.mem_of_getElem? (i := 170) rfl)) (fun a ha => hw a ((by decide +kernel : ∀ a ∈ Bundle.stringAtoms, a ∈ tables_1) a ha)) e72 hS72 hk72 (g := (mkF m 62 #[.val (.int i0), .val (.long i1), .second, .val (.long i2), .second, .val (.long i3), .second, .val (.int (i0 &&& (3 : Int32))), .val (.ref b1), .val (.long ((0 : Int64) + i1)), .second, .unset] [(.long i2), (.ref a72), (.ref b66), (.ref b66), (.ref b1)])) rfl (hb hby at_62) (n := 4) (by decide) (by decide) (by decide) (by decide)
      refine OGo.by st74 ?_
      have K74 : Keep h0 h74 [] := (K72).ext E74
      show OGo p e below _ (T74.setTop (mkF m 64 #[.val (.int i0), .val (.long i1), .second, .val (.long i2), .second, .val (.long i3), .second, .val (.int (i0 &&& (3 : Int32))), .val (.ref b1), .val (.long ((0 : Int64) + i1)), .second, .unset] [(.ref a74), (.long i2), (.ref a72), (.ref b66), (.ref b66), (.ref b1)]))
      have f76 : Exa Z h74 b66 "com/example/kept_inbox/keptinbox/UnreadConversation" := ((A66.ext E72).ext E74)
      have f77 : Fld Z h74 b66 "com/example/kept_inbox/keptinbox/UnreadConversation" "id" "Ljava/lang/String;" .null := ((F66_id.ext E72).ext E74)
      have f78 : Fld Z h74 b66 "com/example/kept_inbox/keptinbox/UnreadConversation" "waiting" "J" (.long (0 : Int64)) := ((F66_waiting.ext E72).ext E74)
      have f79 : Fld Z h74 b66 "com/example/kept_inbox/keptinbox/UnreadConversation" "newestTitle" "Ljava/lang/String;" .null := ((F66_newestTitle.ext E72).ext E74)
      obtain ⟨_, _, ⟨T75, L75, k75, n75⟩, -, X75, ⟨Lc75, hQ75, l75, y75, z75⟩, st75⟩ := X74.specialBack hx (y := (⟨"com/example/kept_inbox/keptinbox/UnreadConversation", "<init>", "(Ljava/lang/String;JLjava/lang/String;)V"⟩ : MethodName)) rfl hown74 (mvT hZ74 (hw _ (List.mem_of_getElem? (i := 130) rfl))) (mvT hZ74 (hw _ (List.mem_of_getElem? (i := 131) rfl))) (mvT hZ74 (hw _ (List.mem_of_getElem? (i := 132) rfl))) (by decide) (backOf (W := 2) (rm16 l Z av0 hw [] b66 a72 i2 a74 h74 n0 (Nat.le_trans Z0 K74.1) f76 f77 f78 f79 g_b66) hZ74 (hw _ (List.mem_of_getElem? (i := 132) rfl)) (hw _ (List.mem_of_getElem? (i := 120) rfl)) (by decide) (by decide)) (g := (mkF m 64 #[.val (.int i0), .val (.long i1), .second, .val (.long i2), .second, .val (.long i3), .second, .val (.int (i0 &&& (3 : Int32))), .val (.ref b1), .val (.long ((0 : Int64) + i1)), .second, .unset] [(.ref a74), (.long i2), (.ref a72), (.ref b66), (.ref b66), (.ref b1)])) rfl (by rw [hml]; rfl) (Steps.refl _) (a := b66) (argsL := [(.ref a72), (.long i2), (.ref a74)]) (rest := [(.ref b66), (.ref b1)]) (lenOf own_pd22 rfl) rfl (by show 2 * 0 + _ ≤ _; exact Nat.le_of_eq rfl) (hb hby at_64) (fun _ _ => ⟨rfl, e74, (by decide : 12 + 0 ≤ _), (by decide : 51 + 0 ≤ _)⟩)
      dsimp only [Pt.U, Pt.locs, Pt.cells, Pt.slots] at X75 l75 y75 z75 st75 hQ75
      subst l75 y75 z75
      obtain ⟨rfl, N75q, Kc75, G75_0, G75_1⟩ := hQ75
      have N75 := Fr.app N32 N75q
      have K75 : Keep h0 T75.heap [] := (K74).trans Kc75 (allS (P := fun x => x ∈ ([] : List Addr) ∨ h0.size ≤ x) (Or.inr sz_b66) (all0 (P := fun x => x ∈ ([] : List Addr) ∨ h0.size ≤ x)))
      refine OGo.of st75 ?_
      show OGo p e below _ (T75.setTop (mkF m 67 #[.val (.int i0), .val (.long i1), .second, .val (.long i2), .second, .val (.long i3), .second, .val (.int (i0 &&& (3 : Int32))), .val (.ref b1), .val (.long ((0 : Int64) + i1)), .second, .unset] [(.ref b66), (.ref b1)]))
      have f81 : Exa Z T75.heap b1 "java/util/ArrayList" := ((((G32_2.ext E66).ext E72).ext E74).keep Kc75)
      have f82 : Fld Z T75.heap b1 "java/util/AbstractList" "modCount" "I" (.int ((0 : Int32) + (1 : Int32))) := ((((G32_3.ext E66).ext E72).ext E74).keep Kc75 (ninS ne_b1_b66 nin0))
      have f83 : Fld Z T75.heap b1 "java/util/ArrayList" "size" "I" (.int (1 : Int32)) := ((((G32_4.ext E66).ext E72).ext E74).keep Kc75 (ninS ne_b1_b66 nin0))
      have f84 : Fld Z T75.heap b1 "java/util/ArrayList" "elementData" "[Ljava/lang/Object;" (.ref b_32) := ((((G32_5.ext E66).ext E72).ext E74).keep Kc75 (ninS ne_b1_b66 nin0))
      have f85 : Arv Z T75.heap b_32 kb_32 (.object "java/lang/Object") (10 : Int32) [(.ref b19), .null, .null, .null, .null, .null, .null, .null, .null, .null] .null := ((((G32_6.ext E66).ext E72).ext E74).keep Kc75 (ninS ne_b_32_b66 nin0))
      have f86 : Exa Z T75.heap b_32 "[Ljava/lang/Object;" := ((((G32_7.ext E66).ext E72).ext E74).keep Kc75)
      obtain ⟨cq80, kq80, q80a, q80b, q80c⟩ := isOf hZ74 rfl f81
      obtain ⟨_, _, ⟨T80, L80, k80, n80⟩, -, X80, ⟨Lc80, hQ80, l80, y80, z80⟩, st80⟩ := X75.virtualBack hx (y := (⟨"java/util/ArrayList", "add", "(Ljava/lang/Object;)Z"⟩ : MethodName)) (z := (⟨"java/util/ArrayList", "add", "(Ljava/lang/Object;)Z"⟩ : MethodName)) hown74 (mvT hZ74 (hw _ (List.mem_of_getElem? (i := 140) rfl))) (mvT hZ74 (hw _ (List.mem_of_getElem? (i := 141) rfl))) (notFace_of_selects (args := #[]) (mvT hZ74 (hw _ (List.mem_of_getElem? (i := 143) rfl)))) (mvT hZ74 (hw _ (List.mem_of_getElem? (i := 143) rfl))) (mvT hZ74 (hw _ (List.mem_of_getElem? (i := 142) rfl))) (by decide) (backOf (W := 0) (rm_add1 l Z av0 hw [] b1 b66 b_32 kb_32 ((0 : Int32) + (1 : Int32)) b19 T75.heap n0 (Nat.le_trans Z0 K75.1) f81 f82 f83 f84 f85 G32_8 ne_b1_b_32 g_b1 g_b_32 G75_0 f86) hZ74 (hw _ (List.mem_of_getElem? (i := 144) rfl)) (hw _ (List.mem_of_getElem? (i := 2) rfl)) (by decide) (by decide)) q80a q80c (g := (mkF m 67 #[.val (.int i0), .val (.long i1), .second, .val (.long i2), .second, .val (.long i3), .second, .val (.int (i0 &&& (3 : Int32))), .val (.ref b1), .val (.long ((0 : Int64) + i1)), .second, .unset] [(.ref b66), (.ref b1)])) rfl (by rw [hml]; rfl) (Steps.refl _) (argsL := [(.ref b66)]) (rest := []) (lenOf own_pd23 rfl) rfl (by show 2 * 0 + _ ≤ _; exact Nat.le_of_eq rfl) (hb hby at_67) (fun _ _ => ⟨rfl, rfl, (by decide : 12 + 0 ≤ _), (by decide : 51 + 0 ≤ _)⟩)
      dsimp only [Pt.U, Pt.locs, Pt.cells, Pt.slots] at X80 l80 y80 z80 st80 hQ80
      subst l80 y80 z80
      obtain ⟨rfl, N80q, Kc80, G80_0, G80_1, G80_2, G80_3, G80_4, G80_5⟩ := hQ80
      have N80 := Fr.app N75 N80q
      have K80 : Keep h0 T80.heap [] := (K75).trans Kc80 (allS (P := fun x => x ∈ ([] : List Addr) ∨ h0.size ≤ x) (Or.inr sz_b1) (allS (P := fun x => x ∈ ([] : List Addr) ∨ h0.size ≤ x) (Or.inr sz_b_32) (all0 (P := fun x => x ∈ ([] : List Addr) ∨ h0.size ≤ x))))
      refine OGo.of st80 ?_
      show OGo p e below _ (T80.setTop (mkF m 70 #[.val (.int i0), .val (.long i1), .second, .val (.long i2), .second, .val (.long i3), .second, .val (.int (i0 &&& (3 : Int32))), .val (.ref b1), .val (.long ((0 : Int64) + i1)), .second, .unset] [(.int (1 : Int32))]))
      refine OGo.by (fun _ k => XS.pop X80.here hx rfl (hb hby at_70) rfl rfl k) ?_
      show OGo p e below _ (T80.setTop (mkF m 71 #[.val (.int i0), .val (.long i1), .second, .val (.long i2), .second, .val (.long i3), .second, .val (.int (i0 &&& (3 : Int32))), .val (.ref b1), .val (.long ((0 : Int64) + i1)), .second, .unset] []))
      refine OGo.by (fun _ k => XS.lload X80.here hx rfl (hb hby at_71) rfl k) ?_
      show OGo p e below _ (T80.setTop (mkF m 73 #[.val (.int i0), .val (.long i1), .second, .val (.long i2), .second, .val (.long i3), .second, .val (.int (i0 &&& (3 : Int32))), .val (.ref b1), .val (.long ((0 : Int64) + i1)), .second, .unset] [(.long ((0 : Int64) + i1))]))
      refine OGo.by (fun _ k => XS.lloadN X80.here hx rfl (hb hby at_73) rfl k) ?_
      show OGo p e below _ (T80.setTop (mkF m 74 #[.val (.int i0), .val (.long i1), .second, .val (.long i2), .second, .val (.long i3), .second, .val (.int (i0 &&& (3 : Int32))), .val (.ref b1), .val (.long ((0 : Int64) + i1)), .second, .unset] [(.long i2), (.long ((0 : Int64) + i1))]))
      refine OGo.by (fun _ k => XS.ladd X80.here hx rfl (hb hby at_74) rfl k) ?_
      show OGo p e below _ (T80.setTop (mkF m 75 #[.val (.int i0), .val (.long i1), .second, .val (.long i2), .second, .val (.long i3), .second, .val (.int (i0 &&& (3 : Int32))), .val (.ref b1), .val (.long ((0 : Int64) + i1)), .second, .unset] [(.long (((0 : Int64) + i1) + i2))]))
      refine OGo.by (fun _ k => XS.lstore X80.here hx rfl (hb hby at_75) rfl (l' := #[.val (.int i0), .val (.long i1), .second, .val (.long i2), .second, .val (.long i3), .second, .val (.int (i0 &&& (3 : Int32))), .val (.ref b1), .val (.long (((0 : Int64) + i1) + i2)), .second, .unset]) rfl k) ?_
      show OGo p e below _ (T80.setTop (mkF m 77 #[.val (.int i0), .val (.long i1), .second, .val (.long i2), .second, .val (.long i3), .second, .val (.int (i0 &&& (3 : Int32))), .val (.ref b1), .val (.long (((0 : Int64) + i1) + i2)), .second, .unset] []))
      refine OGo.by (fun _ k => XS.iload X80.here hx rfl (hb hby at_77) rfl k) ?_
      show OGo p e below _ (T80.setTop (mkF m 79 #[.val (.int i0), .val (.long i1), .second, .val (.long i2), .second, .val (.long i3), .second, .val (.int (i0 &&& (3 : Int32))), .val (.ref b1), .val (.long (((0 : Int64) + i1) + i2)), .second, .unset] [(.int (i0 &&& (3 : Int32)))]))
      refine OGo.by (fun _ k => XS.iconst X80.here hx rfl (hb hby at_79) k) ?_
      show OGo p e below _ (T80.setTop (mkF m 80 #[.val (.int i0), .val (.long i1), .second, .val (.long i2), .second, .val (.long i3), .second, .val (.int (i0 &&& (3 : Int32))), .val (.ref b1), .val (.long (((0 : Int64) + i1) + i2)), .second, .unset] [(.int (3 : Int32)), (.int (i0 &&& (3 : Int32)))]))
      by_cases hc80_87 : (i0 &&& (3 : Int32)) < (3 : Int32)
      · refine OGo.by (fun _ k => XS.icmpYes X80.here hx rfl (pc0 := 80) (pc' := 109) rfl (hb hby at_80) rfl (tlt hc80_87).1 (by decide) (by decide) k) ?_
        show OGo p e below _ (T80.setTop (mkF m 109 #[.val (.int i0), .val (.long i1), .second, .val (.long i2), .second, .val (.long i3), .second, .val (.int (i0 &&& (3 : Int32))), .val (.ref b1), .val (.long (((0 : Int64) + i1) + i2)), .second, .unset] []))
        obtain ⟨T88, h88, X88, e88, E88, A88, D88, U88, st88⟩ := newO X80 hx hZ74 hown74 (hw _ (List.mem_of_getElem? (i := 26) rfl)) (hw _ (List.mem_of_getElem? (i := 27) rfl)) (hw _ (List.mem_of_getElem? (i := 28) rfl)) rfl (g := (mkF m 109 #[.val (.int i0), .val (.long i1), .second, .val (.long i2), .second, .val (.long i3), .second, .val (.int (i0 &&& (3 : Int32))), .val (.ref b1), .val (.long (((0 : Int64) + i1) + i2)), .second, .unset] [])) rfl (hb hby at_109) (by decide) (by decide)
        obtain ⟨b88, g88⟩ : ∃ z, z = T80.heap.size := ⟨_, rfl⟩
        rw [← g88] at A88 D88 U88 st88
        have f89 : Arv Z T80.heap w ke (.object "java/lang/Object") (0 : Int32) [] .null := (((((f67.ext E66).ext E72).ext E74).keep Kc75 (ninS ne_w_b66 nin0)).keep Kc80 (ninS ne_w_b1 (ninS ne_w_b_32 nin0)))
        have ne_w_b88 : w ≠ b88 := Nat.ne_of_lt (Nat.lt_of_lt_of_le f89.lt (Nat.le_of_eq g88.symm))
        have f90 : Exa Z T80.heap wl "java/util/ImmutableCollections$ListN" := (((((f68.ext E66).ext E72).ext E74).keep Kc75).keep Kc80)
        have ne_wl_b88 : wl ≠ b88 := Nat.ne_of_lt (Nat.lt_of_lt_of_le f90.lt (Nat.le_of_eq g88.symm))
        have f91 : Arv Z T80.heap t kt (.object "java/lang/Object") (0 : Int32) [] .null := (((((f69.ext E66).ext E72).ext E74).keep Kc75 (ninS ne_t_b66 nin0)).keep Kc80 (ninS ne_t_b1 (ninS ne_t_b_32 nin0)))
        have ne_t_b88 : t ≠ b88 := Nat.ne_of_lt (Nat.lt_of_lt_of_le f91.lt (Nat.le_of_eq g88.symm))
        have f92 : Exa Z T80.heap we "java/lang/Object" := (((((f70.ext E66).ext E72).ext E74).keep Kc75).keep Kc80)
        have ne_we_b88 : we ≠ b88 := Nat.ne_of_lt (Nat.lt_of_lt_of_le f92.lt (Nat.le_of_eq g88.symm))
        have ne_b1_b88 : b1 ≠ b88 := Nat.ne_of_lt (Nat.lt_of_lt_of_le G80_0.lt (Nat.le_of_eq g88.symm))
        have f93 : Exa Z T80.heap b19 "com/example/kept_inbox/keptinbox/UnreadConversation" := (((((f71.ext E66).ext E72).ext E74).keep Kc75).keep Kc80)
        have ne_b19_b88 : b19 ≠ b88 := Nat.ne_of_lt (Nat.lt_of_lt_of_le f93.lt (Nat.le_of_eq g88.symm))
        have ne_b_32_b88 : b_32 ≠ b88 := Nat.ne_of_lt (Nat.lt_of_lt_of_le G80_4.lt (Nat.le_of_eq g88.symm))
        have f94 : Exa Z T80.heap b66 "com/example/kept_inbox/keptinbox/UnreadConversation" := (G75_0.keep Kc80)
        have ne_b66_b88 : b66 ≠ b88 := Nat.ne_of_lt (Nat.lt_of_lt_of_le f94.lt (Nat.le_of_eq g88.symm))
        have g_b88 : n0 ≤ b88 := Nat.le_trans (Nat.le_trans Z0 K80.1) (Nat.le_of_eq g88.symm)
        have sz_b88 : h0.size ≤ b88 := Nat.le_trans K80.1 (Nat.le_of_eq g88.symm)
        refine OGo.by st88 ?_
        have K88 : Keep h0 h88 [] := (K80).ext E88
        have F88_conversations : Fld Z h88 b88 "com/example/kept_inbox/keptinbox/Unread" "conversations" "Ljava/util/List;" .null := D88 (Or.inr (hw _ (List.mem_of_getElem? (i := 68) rfl))) (ty := (.object "java/util/List")) (by decide)
        show OGo p e below _ (T88.setTop (mkF m 112 #[.val (.int i0), .val (.long i1), .second, .val (.long i2), .second, .val (.long i3), .second, .val (.int (i0 &&& (3 : Int32))), .val (.ref b1), .val (.long (((0 : Int64) + i1) + i2)), .second, .unset] [(.ref b88)]))
        refine OGo.by (fun _ k => XS.dup X88.here hx rfl (hb hby at_112) rfl rfl k) ?_
        show OGo p e below _ (T88.setTop (mkF m 113 #[.val (.int i0), .val (.long i1), .second, .val (.long i2), .second, .val (.long i3), .second, .val (.int (i0 &&& (3 : Int32))), .val (.ref b1), .val (.long (((0 : Int64) + i1) + i2)), .second, .unset] [(.ref b88), (.ref b88)]))
        refine OGo.by (fun _ k => XS.aload X88.here hx rfl (hb hby at_113) rfl rfl k) ?_
        show OGo p e below _ (T88.setTop (mkF m 115 #[.val (.int i0), .val (.long i1), .second, .val (.long i2), .second, .val (.long i3), .second, .val (.int (i0 &&& (3 : Int32))), .val (.ref b1), .val (.long (((0 : Int64) + i1) + i2)), .second, .unset] [(.ref b1), (.ref b88), (.ref b88)]))
        have f96 : Exa Z h88 b1 "java/util/ArrayList" := (G80_0.ext E88)
        have f97 : Fld Z h88 b1 "java/util/ArrayList" "size" "I" (.int (2 : Int32)) := (G80_2.ext E88)
        have f98 : Fld Z h88 b1 "java/util/ArrayList" "elementData" "[Ljava/lang/Object;" (.ref b_32) := (G80_3.ext E88)
        have f99 : Arv Z h88 b_32 kb_32 (.object "java/lang/Object") (10 : Int32) [(.ref b19), (.ref b66), .null, .null, .null, .null, .null, .null, .null, .null] .null := (G80_4.ext E88)
        have f100 : Exa Z h88 b_32 "[Ljava/lang/Object;" := (G80_5.ext E88)
        have f101 : Exa Z h88 b19 "com/example/kept_inbox/keptinbox/UnreadConversation" := (f93.ext E88)
        have f102 : Exa Z h88 b66 "com/example/kept_inbox/keptinbox/UnreadConversation" := (f94.ext E88)
        obtain ⟨_, _, ⟨T95, L95, k95, n95⟩, -, X95, ⟨Lc95, hQ95, l95, y95, z95⟩, st95⟩ := X88.specialBack hx (y := (⟨"com/example/kept_inbox/keptinbox/Unread", "<init>", "(Ljava/util/List;)V"⟩ : MethodName)) rfl hown74 (mvT hZ74 (hw _ (List.mem_of_getElem? (i := 29) rfl))) (mvT hZ74 (hw _ (List.mem_of_getElem? (i := 30) rfl))) (mvT hZ74 (hw _ (List.mem_of_getElem? (i := 31) rfl))) (by decide) (backOf (W := 1) (rm_un2 l Z av0 hw [] b88 b1 b_32 kb_32 mr b19 b66 h88 n0 (Nat.le_trans Z0 K88.1) f96 f97 f98 f99 f100 M_0 f101 f102 A88 F88_conversations g_b88) hZ74 (hw _ (List.mem_of_getElem? (i := 31) rfl)) (hw _ (List.mem_of_getElem? (i := 28) rfl)) (by decide) (by decide)) (g := (mkF m 115 #[.val (.int i0), .val (.long i1), .second, .val (.long i2), .second, .val (.long i3), .second, .val (.int (i0 &&& (3 : Int32))), .val (.ref b1), .val (.long (((0 : Int64) + i1) + i2)), .second, .unset] [(.ref b1), (.ref b88), (.ref b88)])) rfl (by rw [hml]; rfl) (Steps.refl _) (a := b88) (argsL := [(.ref b1)]) (rest := [(.ref b88)]) (lenOf own_pd21 rfl) rfl (by show 2 * 0 + _ ≤ _; exact Nat.le_of_eq rfl) (hb hby at_115) (fun _ _ => ⟨rfl, e88, (by decide : 13 + 2 ≤ _), (by decide : 52 + 4 ≤ _)⟩)
        dsimp only [Pt.U, Pt.locs, Pt.cells, Pt.slots] at X95 l95 y95 z95 st95 hQ95
        subst l95 y95 z95
        obtain ⟨b_95, rfl, N95q, Kc95, G95_0, G95_1, G95_2, G95_3, G95_4, G95_5, G95_6⟩ := hQ95
        have N95 := Fr.app N80 N95q
        have f103 : Arv Z h88 w ke (.object "java/lang/Object") (0 : Int32) [] .null := (f89.ext E88)
        have ne_w_b_95 : w ≠ b_95 := Nat.ne_of_lt (Nat.lt_of_lt_of_le f103.lt G95_0)
        have f104 : Exa Z h88 wl "java/util/ImmutableCollections$ListN" := (f90.ext E88)
        have ne_wl_b_95 : wl ≠ b_95 := Nat.ne_of_lt (Nat.lt_of_lt_of_le f104.lt G95_0)
        have f105 : Arv Z h88 t kt (.object "java/lang/Object") (0 : Int32) [] .null := (f91.ext E88)
        have ne_t_b_95 : t ≠ b_95 := Nat.ne_of_lt (Nat.lt_of_lt_of_le f105.lt G95_0)
        have f106 : Exa Z h88 we "java/lang/Object" := (f92.ext E88)
        have ne_we_b_95 : we ≠ b_95 := Nat.ne_of_lt (Nat.lt_of_lt_of_le f106.lt G95_0)
        have ne_b1_b_95 : b1 ≠ b_95 := Nat.ne_of_lt (Nat.lt_of_lt_of_le f96.lt G95_0)
        have ne_b19_b_95 : b19 ≠ b_95 := Nat.ne_of_lt (Nat.lt_of_lt_of_le f101.lt G95_0)
        have ne_b_32_b_95 : b_32 ≠ b_95 := Nat.ne_of_lt (Nat.lt_of_lt_of_le f99.lt G95_0)
        have ne_b66_b_95 : b66 ≠ b_95 := Nat.ne_of_lt (Nat.lt_of_lt_of_le f102.lt G95_0)
        have ne_b88_b_95 : b88 ≠ b_95 := Nat.ne_of_lt (Nat.lt_of_lt_of_le A88.lt G95_0)
        have g_b_95 : n0 ≤ b_95 := Nat.le_trans (Nat.le_trans Z0 K88.1) G95_0
        have sz_b_95 : h0.size ≤ b_95 := Nat.le_trans K88.1 G95_0
        have K95 : Keep h0 T95.heap [] := (K88).trans Kc95 (allS (P := fun x => x ∈ ([] : List Addr) ∨ h0.size ≤ x) (Or.inr sz_b88) (all0 (P := fun x => x ∈ ([] : List Addr) ∨ h0.size ≤ x)))
        refine OGo.of st95 ?_
        show OGo p e below _ (T95.setTop (mkF m 118 #[.val (.int i0), .val (.long i1), .second, .val (.long i2), .second, .val (.long i3), .second, .val (.int (i0 &&& (3 : Int32))), .val (.ref b1), .val (.long (((0 : Int64) + i1) + i2)), .second, .unset] [(.ref b88)]))
        refine OGo.by (fun _ k => XS.astore X95.here hx rfl (hb hby at_118) rfl rfl (l' := #[.val (.int i0), .val (.long i1), .second, .val (.long i2), .second, .val (.long i3), .second, .val (.int (i0 &&& (3 : Int32))), .val (.ref b1), .val (.long (((0 : Int64) + i1) + i2)), .second, .val (.ref b88)]) rfl k) ?_
        show OGo p e below _ (T95.setTop (mkF m 120 #[.val (.int i0), .val (.long i1), .second, .val (.long i2), .second, .val (.long i3), .second, .val (.int (i0 &&& (3 : Int32))), .val (.ref b1), .val (.long (((0 : Int64) + i1) + i2)), .second, .val (.ref b88)] []))
        refine OGo.by (fun _ k => XS.aload X95.here hx rfl (hb hby at_120) rfl rfl k) ?_
        show OGo p e below _ (T95.setTop (mkF m 122 #[.val (.int i0), .val (.long i1), .second, .val (.long i2), .second, .val (.long i3), .second, .val (.int (i0 &&& (3 : Int32))), .val (.ref b1), .val (.long (((0 : Int64) + i1) + i2)), .second, .val (.ref b88)] [(.ref b88)]))
        have f108 : Old Z n0 T95.heap := ((((((((f38.keep Kc32 (allS g_b1 all0)).ext E66).ext E72).ext E74).keep Kc75 (allS g_b66 all0)).keep Kc80 (allS g_b1 (allS g_b_32 all0))).ext E88).keep Kc95 (allS g_b88 all0))
        have f109 : Exa Z T95.heap b19 "com/example/kept_inbox/keptinbox/UnreadConversation" := (f101.keep Kc95)
        have f110 : Fld Z T95.heap b19 "com/example/kept_inbox/keptinbox/UnreadConversation" "waiting" "J" (.long i1) := ((((((((G27_1.keep Kc32 (ninS (Ne.symm ne_b1_b19) nin0)).ext E66).ext E72).ext E74).keep Kc75 (ninS ne_b19_b66 nin0)).keep Kc80 (ninS (Ne.symm ne_b1_b19) (ninS ne_b19_b_32 nin0))).ext E88).keep Kc95 (ninS ne_b19_b88 nin0))
        have f111 : Exa Z T95.heap b66 "com/example/kept_inbox/keptinbox/UnreadConversation" := (f102.keep Kc95)
        have f112 : Fld Z T95.heap b66 "com/example/kept_inbox/keptinbox/UnreadConversation" "waiting" "J" (.long i2) := (((G75_1.keep Kc80 (ninS (Ne.symm ne_b1_b66) (ninS (Ne.symm ne_b_32_b66) nin0))).ext E88).keep Kc95 (ninS ne_b66_b88 nin0))
        obtain ⟨cq107, kq107, q107a, q107b, q107c⟩ := isOf hZ74 rfl G95_5
        obtain ⟨_, _, ⟨T107, L107, k107, n107⟩, -, X107, ⟨Lc107, hQ107, l107, y107, z107⟩, st107⟩ := X95.virtualBack hx (y := (⟨"com/example/kept_inbox/keptinbox/Unread", "total", "()J"⟩ : MethodName)) (z := (⟨"com/example/kept_inbox/keptinbox/Unread", "total", "()J"⟩ : MethodName)) hown74 (mvT hZ74 (hw _ (List.mem_of_getElem? (i := 69) rfl))) (mvT hZ74 (hw _ (List.mem_of_getElem? (i := 70) rfl))) (notFace_of_selects (args := #[]) (mvT hZ74 (hw _ (List.mem_of_getElem? (i := 72) rfl)))) (mvT hZ74 (hw _ (List.mem_of_getElem? (i := 72) rfl))) (mvT hZ74 (hw _ (List.mem_of_getElem? (i := 71) rfl))) (by decide) (backOf (W := 0) (rm_tot2 l Z av0 hw [] b88 b_95 we b19 b66 i1 i2 T95.heap n0 (Nat.le_trans Z0 K95.1) G95_6 G95_2 G95_3 G95_4 f108 S_e (Ne.symm ne_we_b66) f109 f110 f111 f112) hZ74 (hw _ (List.mem_of_getElem? (i := 73) rfl)) (hw _ (List.mem_of_getElem? (i := 28) rfl)) (by decide) (by decide)) q107a q107c (g := (mkF m 122 #[.val (.int i0), .val (.long i1), .second, .val (.long i2), .second, .val (.long i3), .second, .val (.int (i0 &&& (3 : Int32))), .val (.ref b1), .val (.long (((0 : Int64) + i1) + i2)), .second, .val (.ref b88)] [(.ref b88)])) rfl (by rw [hml]; rfl) (Steps.refl _) (argsL := []) (rest := []) (lenOf own_pd20 rfl) rfl (by show 2 * 0 + _ ≤ _; exact Nat.le_of_eq rfl) (hb hby at_122) (fun _ _ => ⟨rfl, rfl, (by decide : 15 + 1 ≤ _), (by decide : 56 + 4 ≤ _)⟩)
        dsimp only [Pt.U, Pt.locs, Pt.cells, Pt.slots] at X107 l107 y107 z107 st107 hQ107
        subst l107 y107 z107
        obtain ⟨rfl, N107q, Kc107⟩ := hQ107
        have N107 := Fr.app N95 N107q
        have K107 : Keep h0 T107.heap [] := (K95).trans Kc107 (all0 (P := fun x => x ∈ ([] : List Addr) ∨ h0.size ≤ x))
        refine OGo.of st107 ?_
        show OGo p e below _ (T107.setTop (mkF m 125 #[.val (.int i0), .val (.long i1), .second, .val (.long i2), .second, .val (.long i3), .second, .val (.int (i0 &&& (3 : Int32))), .val (.ref b1), .val (.long (((0 : Int64) + i1) + i2)), .second, .val (.ref b88)] [(.long (((0 : Int64) + i1) + i2))]))
        refine OGo.by (fun _ k => XS.lload X107.here hx rfl (hb hby at_125) rfl k) ?_
        show OGo p e below _ (T107.setTop (mkF m 127 #[.val (.int i0), .val (.long i1), .second, .val (.long i2), .second, .val (.long i3), .second, .val (.int (i0 &&& (3 : Int32))), .val (.ref b1), .val (.long (((0 : Int64) + i1) + i2)), .second, .val (.ref b88)] [(.long (((0 : Int64) + i1) + i2)), (.long (((0 : Int64) + i1) + i2))]))
        refine OGo.by (fun _ k => XS.lcmp X107.here hx rfl (hb hby at_127) rfl k) ?_
        show OGo p e below _ (T107.setTop (mkF m 128 #[.val (.int i0), .val (.long i1), .second, .val (.long i2), .second, .val (.long i3), .second, .val (.int (i0 &&& (3 : Int32))), .val (.ref b1), .val (.long (((0 : Int64) + i1) + i2)), .second, .val (.ref b88)] [(.int (lcmpW (((0 : Int64) + i1) + i2) (((0 : Int64) + i1) + i2)))]))
        refine OGo.by (fun _ k => XS.ifNo X107.here hx rfl (hb hby at_128) rfl ((if0 _ _).trans (teq ((lw_eq _ _).mpr (rfl : (((0 : Int64) + i1) + i2) = (((0 : Int64) + i1) + i2)))).2) k) ?_
        show OGo p e below _ (T107.setTop (mkF m 131 #[.val (.int i0), .val (.long i1), .second, .val (.long i2), .second, .val (.long i3), .second, .val (.int (i0 &&& (3 : Int32))), .val (.ref b1), .val (.long (((0 : Int64) + i1) + i2)), .second, .val (.ref b88)] []))
        refine OGo.by (fun _ k => XS.iconst X107.here hx rfl (hb hby at_131) k) ?_
        show OGo p e below _ (T107.setTop (mkF m 132 #[.val (.int i0), .val (.long i1), .second, .val (.long i2), .second, .val (.long i3), .second, .val (.int (i0 &&& (3 : Int32))), .val (.ref b1), .val (.long (((0 : Int64) + i1) + i2)), .second, .val (.ref b88)] [(.int (1 : Int32))]))
        refine OGo.by (fun _ k => XS.goto X107.here hx rfl (pc0 := 132) (pc' := 136) rfl (hb hby at_132) (by decide) (by decide) k) ?_
        show OGo p e below _ (T107.setTop (mkF m 136 #[.val (.int i0), .val (.long i1), .second, .val (.long i2), .second, .val (.long i3), .second, .val (.int (i0 &&& (3 : Int32))), .val (.ref b1), .val (.long (((0 : Int64) + i1) + i2)), .second, .val (.ref b88)] [(.int (1 : Int32))]))
        have f113 : k74 ≤ T107.heap.size := (Nat.le_trans (Nat.le_trans (Nat.le_trans (Nat.le_trans (Nat.le_trans hk74 Kc75.1) Kc80.1) E88.1) Kc95.1) Kc107.1)
        obtain ⟨fs, hr, hrun, hended, hRE⟩ := Stand.leaveW (s := s) (vm₁ := T74.vm) X107 hS74 (by exact f113) (v := some (.int (1 : Int32))) (fun h => by rw [Bd.returns] at h; cases h)
        refine OGo.ret (retN X107 hx (t := .boolean) Bd.returns (by simp) (hb hby at_136) hr) hrun hended ⟨_, _, rfl, ?_, hRE.1, hRE.2.1, hRE.2.2.1, hRE.2.2.2.mono (by decide) (by decide)⟩
        show Q_rm0 Z i0 i1 i2 i3 w ke wl t kt we mr h0 n0 _ T107.heap _
        exact ⟨rfl, N107⟩
      · refine OGo.by (fun _ k => XS.icmpNo X80.here hx rfl (hb hby at_80) rfl (flt hc80_87).1 k) ?_
        show OGo p e below _ (T80.setTop (mkF m 83 #[.val (.int i0), .val (.long i1), .second, .val (.long i2), .second, .val (.long i3), .second, .val (.int (i0 &&& (3 : Int32))), .val (.ref b1), .val (.long (((0 : Int64) + i1) + i2)), .second, .unset] []))
        refine OGo.by (fun _ k => XS.aload X80.here hx rfl (hb hby at_83) rfl rfl k) ?_
        show OGo p e below _ (T80.setTop (mkF m 85 #[.val (.int i0), .val (.long i1), .second, .val (.long i2), .second, .val (.long i3), .second, .val (.int (i0 &&& (3 : Int32))), .val (.ref b1), .val (.long (((0 : Int64) + i1) + i2)), .second, .unset] [(.ref b1)]))
        obtain ⟨T114, h114, X114, e114, E114, A114, D114, U114, st114⟩ := newO X80 hx hZ74 hown74 (hw _ (List.mem_of_getElem? (i := 118) rfl)) (hw _ (List.mem_of_getElem? (i := 119) rfl)) (hw _ (List.mem_of_getElem? (i := 120) rfl)) rfl (g := (mkF m 85 #[.val (.int i0), .val (.long i1), .second, .val (.long i2), .second, .val (.long i3), .second, .val (.int (i0 &&& (3 : Int32))), .val (.ref b1), .val (.long (((0 : Int64) + i1) + i2)), .second, .unset] [(.ref b1)])) rfl (hb hby at_85) (by decide) (by decide)
        obtain ⟨b114, g114⟩ : ∃ z, z = T80.heap.size := ⟨_, rfl⟩
        rw [← g114] at A114 D114 U114 st114
        have f115 : Arv Z T80.heap w ke (.object "java/lang/Object") (0 : Int32) [] .null := (((((f67.ext E66).ext E72).ext E74).keep Kc75 (ninS ne_w_b66 nin0)).keep Kc80 (ninS ne_w_b1 (ninS ne_w_b_32 nin0)))
        have ne_w_b114 : w ≠ b114 := Nat.ne_of_lt (Nat.lt_of_lt_of_le f115.lt (Nat.le_of_eq g114.symm))
        have f116 : Exa Z T80.heap wl "java/util/ImmutableCollections$ListN" := (((((f68.ext E66).ext E72).ext E74).keep Kc75).keep Kc80)
        have ne_wl_b114 : wl ≠ b114 := Nat.ne_of_lt (Nat.lt_of_lt_of_le f116.lt (Nat.le_of_eq g114.symm))
        have f117 : Arv Z T80.heap t kt (.object "java/lang/Object") (0 : Int32) [] .null := (((((f69.ext E66).ext E72).ext E74).keep Kc75 (ninS ne_t_b66 nin0)).keep Kc80 (ninS ne_t_b1 (ninS ne_t_b_32 nin0)))
        have ne_t_b114 : t ≠ b114 := Nat.ne_of_lt (Nat.lt_of_lt_of_le f117.lt (Nat.le_of_eq g114.symm))
        have f118 : Exa Z T80.heap we "java/lang/Object" := (((((f70.ext E66).ext E72).ext E74).keep Kc75).keep Kc80)
        have ne_we_b114 : we ≠ b114 := Nat.ne_of_lt (Nat.lt_of_lt_of_le f118.lt (Nat.le_of_eq g114.symm))
        have ne_b1_b114 : b1 ≠ b114 := Nat.ne_of_lt (Nat.lt_of_lt_of_le G80_0.lt (Nat.le_of_eq g114.symm))
        have f119 : Exa Z T80.heap b19 "com/example/kept_inbox/keptinbox/UnreadConversation" := (((((f71.ext E66).ext E72).ext E74).keep Kc75).keep Kc80)
        have ne_b19_b114 : b19 ≠ b114 := Nat.ne_of_lt (Nat.lt_of_lt_of_le f119.lt (Nat.le_of_eq g114.symm))
        have ne_b_32_b114 : b_32 ≠ b114 := Nat.ne_of_lt (Nat.lt_of_lt_of_le G80_4.lt (Nat.le_of_eq g114.symm))
        have f120 : Exa Z T80.heap b66 "com/example/kept_inbox/keptinbox/UnreadConversation" := (G75_0.keep Kc80)
        have ne_b66_b114 : b66 ≠ b114 := Nat.ne_of_lt (Nat.lt_of_lt_of_le f120.lt (Nat.le_of_eq g114.symm))
        have g_b114 : n0 ≤ b114 := Nat.le_trans (Nat.le_trans Z0 K80.1) (Nat.le_of_eq g114.symm)
        have sz_b114 : h0.size ≤ b114 := Nat.le_trans K80.1 (Nat.le_of_eq g114.symm)
        refine OGo.by st114 ?_
        have K114 : Keep h0 h114 [] := (K80).ext E114
        have F114_id : Fld Z h114 b114 "com/example/kept_inbox/keptinbox/UnreadConversation" "id" "Ljava/lang/String;" .null := D114 (Or.inr (hw _ (List.mem_of_getElem? (i := 135) rfl))) (ty := (.object "java/lang/String")) (by decide)
        have F114_waiting : Fld Z h114 b114 "com/example/kept_inbox/keptinbox/UnreadConversation" "waiting" "J" (.long (0 : Int64)) := D114 (Or.inr (hw _ (List.mem_of_getElem? (i := 137) rfl))) (ty := .long) (by decide)
        have F114_newestTitle : Fld Z h114 b114 "com/example/kept_inbox/keptinbox/UnreadConversation" "newestTitle" "Ljava/lang/String;" .null := D114 (Or.inr (hw _ (List.mem_of_getElem? (i := 139) rfl))) (ty := (.object "java/lang/String")) (by decide)
        show OGo p e below _ (T114.setTop (mkF m 88 #[.val (.int i0), .val (.long i1), .second, .val (.long i2), .second, .val (.long i3), .second, .val (.int (i0 &&& (3 : Int32))), .val (.ref b1), .val (.long (((0 : Int64) + i1) + i2)), .second, .unset] [(.ref b114), (.ref b1)]))
        refine OGo.by (fun _ k => XS.dup X114.here hx rfl (hb hby at_88) rfl rfl k) ?_
        show OGo p e below _ (T114.setTop (mkF m 89 #[.val (.int i0), .val (.long i1), .second, .val (.long i2), .second, .val (.long i3), .second, .val (.int (i0 &&& (3 : Int32))), .val (.ref b1), .val (.long (((0 : Int64) + i1) + i2)), .second, .unset] [(.ref b114), (.ref b114), (.ref b1)]))
        have f122 : k74 ≤ h114.size := (Nat.le_trans (Nat.le_trans (Nat.le_trans hk74 Kc75.1) Kc80.1) E114.1)
        obtain ⟨a121, T121, h121, k121, X121, e121, E121, hS121, hk121, hZ121, hown121, st121⟩ := ldcS (s := s) (vm0 := T74.vm) X114 hx hZ74 hown74 (hw _ (List.mem_of_getElem? (i := 171) rfl)) (fun a ha => hw a ((by decide +kernel : ∀ a ∈ Bundle.stringAtoms, a ∈ tables_1) a ha)) e114 hS74 f122 (g := (mkF m 89 #[.val (.int i0), .val (.long i1), .second, .val (.long i2), .second, .val (.long i3), .second, .val (.int (i0 &&& (3 : Int32))), .val (.ref b1), .val (.long (((0 : Int64) + i1) + i2)), .second, .unset] [(.ref b114), (.ref b114), (.ref b1)])) rfl (hb hby at_89) (n := 4) (by decide) (by decide) (by decide) (by decide)
        refine OGo.by st121 ?_
        have K121 : Keep h0 h121 [] := (K114).ext E121
        show OGo p e below _ (T121.setTop (mkF m 91 #[.val (.int i0), .val (.long i1), .second, .val (.long i2), .second, .val (.long i3), .second, .val (.int (i0 &&& (3 : Int32))), .val (.ref b1), .val (.long (((0 : Int64) + i1) + i2)), .second, .unset] [(.ref a121), (.ref b114), (.ref b114), (.ref b1)]))
        refine OGo.by (fun _ k => XS.lload X121.here hx rfl (hb hby at_91) rfl k) ?_
        show OGo p e below _ (T121.setTop (mkF m 93 #[.val (.int i0), .val (.long i1), .second, .val (.long i2), .second, .val (.long i3), .second, .val (.int (i0 &&& (3 : Int32))), .val (.ref b1), .val (.long (((0 : Int64) + i1) + i2)), .second, .unset] [(.long i3), (.ref a121), (.ref b114), (.ref b114), (.ref b1)]))
        obtain ⟨a123, T123, h123, k123, X123, e123, E123, hS123, hk123, hZ123, hown123, st123⟩ := ldcS (s := s) (vm0 := T121.vm) X121 hx hZ121 hown121 (hw _ (List.mem_of_getElem? (i := 172) rfl)) (fun a ha => hw a ((by decide +kernel : ∀ a ∈ Bundle.stringAtoms, a ∈ tables_1) a ha)) e121 hS121 hk121 (g := (mkF m 93 #[.val (.int i0), .val (.long i1), .second, .val (.long i2), .second, .val (.long i3), .second, .val (.int (i0 &&& (3 : Int32))), .val (.ref b1), .val (.long (((0 : Int64) + i1) + i2)), .second, .unset] [(.long i3), (.ref a121), (.ref b114), (.ref b114), (.ref b1)])) rfl (hb hby at_93) (n := 4) (by decide) (by decide) (by decide) (by decide)
        refine OGo.by st123 ?_
        have K123 : Keep h0 h123 [] := (K121).ext E123
        show OGo p e below _ (T123.setTop (mkF m 95 #[.val (.int i0), .val (.long i1), .second, .val (.long i2), .second, .val (.long i3), .second, .val (.int (i0 &&& (3 : Int32))), .val (.ref b1), .val (.long (((0 : Int64) + i1) + i2)), .second, .unset] [(.ref a123), (.long i3), (.ref a121), (.ref b114), (.ref b114), (.ref b1)]))
        have f125 : Exa Z h123 b114 "com/example/kept_inbox/keptinbox/UnreadConversation" := ((A114.ext E121).ext E123)
        have f126 : Fld Z h123 b114 "com/example/kept_inbox/keptinbox/UnreadConversation" "id" "Ljava/lang/String;" .null := ((F114_id.ext E121).ext E123)
        have f127 : Fld Z h123 b114 "com/example/kept_inbox/keptinbox/UnreadConversation" "waiting" "J" (.long (0 : Int64)) := ((F114_waiting.ext E121).ext E123)
        have f128 : Fld Z h123 b114 "com/example/kept_inbox/keptinbox/UnreadConversation" "newestTitle" "Ljava/lang/String;" .null := ((F114_newestTitle.ext E121).ext E123)
        obtain ⟨_, _, ⟨T124, L124, k124, n124⟩, -, X124, ⟨Lc124, hQ124, l124, y124, z124⟩, st124⟩ := X123.specialBack hx (y := (⟨"com/example/kept_inbox/keptinbox/UnreadConversation", "<init>", "(Ljava/lang/String;JLjava/lang/String;)V"⟩ : MethodName)) rfl hown123 (mvT hZ123 (hw _ (List.mem_of_getElem? (i := 130) rfl))) (mvT hZ123 (hw _ (List.mem_of_getElem? (i := 131) rfl))) (mvT hZ123 (hw _ (List.mem_of_getElem? (i := 132) rfl))) (by decide) (backOf (W := 2) (rm16 l Z av0 hw [] b114 a121 i3 a123 h123 n0 (Nat.le_trans Z0 K123.1) f125 f126 f127 f128 g_b114) hZ123 (hw _ (List.mem_of_getElem? (i := 132) rfl)) (hw _ (List.mem_of_getElem? (i := 120) rfl)) (by decide) (by decide)) (g := (mkF m 95 #[.val (.int i0), .val (.long i1), .second, .val (.long i2), .second, .val (.long i3), .second, .val (.int (i0 &&& (3 : Int32))), .val (.ref b1), .val (.long (((0 : Int64) + i1) + i2)), .second, .unset] [(.ref a123), (.long i3), (.ref a121), (.ref b114), (.ref b114), (.ref b1)])) rfl (by rw [hml]; rfl) (Steps.refl _) (a := b114) (argsL := [(.ref a121), (.long i3), (.ref a123)]) (rest := [(.ref b114), (.ref b1)]) (lenOf own_pd22 rfl) rfl (by show 2 * 0 + _ ≤ _; exact Nat.le_of_eq rfl) (hb hby at_95) (fun _ _ => ⟨rfl, e123, (by decide : 17 + 0 ≤ _), (by decide : 70 + 0 ≤ _)⟩)
        dsimp only [Pt.U, Pt.locs, Pt.cells, Pt.slots] at X124 l124 y124 z124 st124 hQ124
        subst l124 y124 z124
        obtain ⟨rfl, N124q, Kc124, G124_0, G124_1⟩ := hQ124
        have N124 := Fr.app N80 N124q
        have K124 : Keep h0 T124.heap [] := (K123).trans Kc124 (allS (P := fun x => x ∈ ([] : List Addr) ∨ h0.size ≤ x) (Or.inr sz_b114) (all0 (P := fun x => x ∈ ([] : List Addr) ∨ h0.size ≤ x)))
        refine OGo.of st124 ?_
        show OGo p e below _ (T124.setTop (mkF m 98 #[.val (.int i0), .val (.long i1), .second, .val (.long i2), .second, .val (.long i3), .second, .val (.int (i0 &&& (3 : Int32))), .val (.ref b1), .val (.long (((0 : Int64) + i1) + i2)), .second, .unset] [(.ref b114), (.ref b1)]))
        have f130 : Exa Z T124.heap b1 "java/util/ArrayList" := ((((G80_0.ext E114).ext E121).ext E123).keep Kc124)
        have f131 : Fld Z T124.heap b1 "java/util/AbstractList" "modCount" "I" (.int (((0 : Int32) + (1 : Int32)) + (1 : Int32))) := ((((G80_1.ext E114).ext E121).ext E123).keep Kc124 (ninS ne_b1_b114 nin0))
        have f132 : Fld Z T124.heap b1 "java/util/ArrayList" "size" "I" (.int (2 : Int32)) := ((((G80_2.ext E114).ext E121).ext E123).keep Kc124 (ninS ne_b1_b114 nin0))
        have f133 : Fld Z T124.heap b1 "java/util/ArrayList" "elementData" "[Ljava/lang/Object;" (.ref b_32) := ((((G80_3.ext E114).ext E121).ext E123).keep Kc124 (ninS ne_b1_b114 nin0))
        have f134 : Arv Z T124.heap b_32 kb_32 (.object "java/lang/Object") (10 : Int32) [(.ref b19), (.ref b66), .null, .null, .null, .null, .null, .null, .null, .null] .null := ((((G80_4.ext E114).ext E121).ext E123).keep Kc124 (ninS ne_b_32_b114 nin0))
        have f135 : Exa Z T124.heap b_32 "[Ljava/lang/Object;" := ((((G80_5.ext E114).ext E121).ext E123).keep Kc124)
        obtain ⟨cq129, kq129, q129a, q129b, q129c⟩ := isOf hZ123 rfl f130
        obtain ⟨_, _, ⟨T129, L129, k129, n129⟩, -, X129, ⟨Lc129, hQ129, l129, y129, z129⟩, st129⟩ := X124.virtualBack hx (y := (⟨"java/util/ArrayList", "add", "(Ljava/lang/Object;)Z"⟩ : MethodName)) (z := (⟨"java/util/ArrayList", "add", "(Ljava/lang/Object;)Z"⟩ : MethodName)) hown123 (mvT hZ123 (hw _ (List.mem_of_getElem? (i := 140) rfl))) (mvT hZ123 (hw _ (List.mem_of_getElem? (i := 141) rfl))) (notFace_of_selects (args := #[]) (mvT hZ123 (hw _ (List.mem_of_getElem? (i := 143) rfl)))) (mvT hZ123 (hw _ (List.mem_of_getElem? (i := 143) rfl))) (mvT hZ123 (hw _ (List.mem_of_getElem? (i := 142) rfl))) (by decide) (backOf (W := 0) (rm_add2 l Z av0 hw [] b1 b114 b_32 kb_32 (((0 : Int32) + (1 : Int32)) + (1 : Int32)) b19 b66 T124.heap n0 (Nat.le_trans Z0 K124.1) f130 f131 f132 f133 f134 G32_8 ne_b1_b_32 g_b1 g_b_32 G124_0 f135) hZ123 (hw _ (List.mem_of_getElem? (i := 144) rfl)) (hw _ (List.mem_of_getElem? (i := 2) rfl)) (by decide) (by decide)) q129a q129c (g := (mkF m 98 #[.val (.int i0), .val (.long i1), .second, .val (.long i2), .second, .val (.long i3), .second, .val (.int (i0 &&& (3 : Int32))), .val (.ref b1), .val (.long (((0 : Int64) + i1) + i2)), .second, .unset] [(.ref b114), (.ref b1)])) rfl (by rw [hml]; rfl) (Steps.refl _) (argsL := [(.ref b114)]) (rest := []) (lenOf own_pd23 rfl) rfl (by show 2 * 0 + _ ≤ _; exact Nat.le_of_eq rfl) (hb hby at_98) (fun _ _ => ⟨rfl, rfl, (by decide : 17 + 0 ≤ _), (by decide : 70 + 0 ≤ _)⟩)
        dsimp only [Pt.U, Pt.locs, Pt.cells, Pt.slots] at X129 l129 y129 z129 st129 hQ129
        subst l129 y129 z129
        obtain ⟨rfl, N129q, Kc129, G129_0, G129_1, G129_2, G129_3, G129_4, G129_5⟩ := hQ129
        have N129 := Fr.app N124 N129q
        have K129 : Keep h0 T129.heap [] := (K124).trans Kc129 (allS (P := fun x => x ∈ ([] : List Addr) ∨ h0.size ≤ x) (Or.inr sz_b1) (allS (P := fun x => x ∈ ([] : List Addr) ∨ h0.size ≤ x) (Or.inr sz_b_32) (all0 (P := fun x => x ∈ ([] : List Addr) ∨ h0.size ≤ x))))
        refine OGo.of st129 ?_
        show OGo p e below _ (T129.setTop (mkF m 101 #[.val (.int i0), .val (.long i1), .second, .val (.long i2), .second, .val (.long i3), .second, .val (.int (i0 &&& (3 : Int32))), .val (.ref b1), .val (.long (((0 : Int64) + i1) + i2)), .second, .unset] [(.int (1 : Int32))]))
        refine OGo.by (fun _ k => XS.pop X129.here hx rfl (hb hby at_101) rfl rfl k) ?_
        show OGo p e below _ (T129.setTop (mkF m 102 #[.val (.int i0), .val (.long i1), .second, .val (.long i2), .second, .val (.long i3), .second, .val (.int (i0 &&& (3 : Int32))), .val (.ref b1), .val (.long (((0 : Int64) + i1) + i2)), .second, .unset] []))
        refine OGo.by (fun _ k => XS.lload X129.here hx rfl (hb hby at_102) rfl k) ?_
        show OGo p e below _ (T129.setTop (mkF m 104 #[.val (.int i0), .val (.long i1), .second, .val (.long i2), .second, .val (.long i3), .second, .val (.int (i0 &&& (3 : Int32))), .val (.ref b1), .val (.long (((0 : Int64) + i1) + i2)), .second, .unset] [(.long (((0 : Int64) + i1) + i2))]))
        refine OGo.by (fun _ k => XS.lload X129.here hx rfl (hb hby at_104) rfl k) ?_
        show OGo p e below _ (T129.setTop (mkF m 106 #[.val (.int i0), .val (.long i1), .second, .val (.long i2), .second, .val (.long i3), .second, .val (.int (i0 &&& (3 : Int32))), .val (.ref b1), .val (.long (((0 : Int64) + i1) + i2)), .second, .unset] [(.long i3), (.long (((0 : Int64) + i1) + i2))]))
        refine OGo.by (fun _ k => XS.ladd X129.here hx rfl (hb hby at_106) rfl k) ?_
        show OGo p e below _ (T129.setTop (mkF m 107 #[.val (.int i0), .val (.long i1), .second, .val (.long i2), .second, .val (.long i3), .second, .val (.int (i0 &&& (3 : Int32))), .val (.ref b1), .val (.long (((0 : Int64) + i1) + i2)), .second, .unset] [(.long ((((0 : Int64) + i1) + i2) + i3))]))
        refine OGo.by (fun _ k => XS.lstore X129.here hx rfl (hb hby at_107) rfl (l' := #[.val (.int i0), .val (.long i1), .second, .val (.long i2), .second, .val (.long i3), .second, .val (.int (i0 &&& (3 : Int32))), .val (.ref b1), .val (.long ((((0 : Int64) + i1) + i2) + i3)), .second, .unset]) rfl k) ?_
        show OGo p e below _ (T129.setTop (mkF m 109 #[.val (.int i0), .val (.long i1), .second, .val (.long i2), .second, .val (.long i3), .second, .val (.int (i0 &&& (3 : Int32))), .val (.ref b1), .val (.long ((((0 : Int64) + i1) + i2) + i3)), .second, .unset] []))
        obtain ⟨T136, h136, X136, e136, E136, A136, D136, U136, st136⟩ := newO X129 hx hZ123 hown123 (hw _ (List.mem_of_getElem? (i := 26) rfl)) (hw _ (List.mem_of_getElem? (i := 27) rfl)) (hw _ (List.mem_of_getElem? (i := 28) rfl)) rfl (g := (mkF m 109 #[.val (.int i0), .val (.long i1), .second, .val (.long i2), .second, .val (.long i3), .second, .val (.int (i0 &&& (3 : Int32))), .val (.ref b1), .val (.long ((((0 : Int64) + i1) + i2) + i3)), .second, .unset] [])) rfl (hb hby at_109) (by decide) (by decide)
        obtain ⟨b136, g136⟩ : ∃ z, z = T129.heap.size := ⟨_, rfl⟩
        rw [← g136] at A136 D136 U136 st136
        have f137 : Arv Z T129.heap w ke (.object "java/lang/Object") (0 : Int32) [] .null := (((((f115.ext E114).ext E121).ext E123).keep Kc124 (ninS ne_w_b114 nin0)).keep Kc129 (ninS ne_w_b1 (ninS ne_w_b_32 nin0)))
        have ne_w_b136 : w ≠ b136 := Nat.ne_of_lt (Nat.lt_of_lt_of_le f137.lt (Nat.le_of_eq g136.symm))
        have f138 : Exa Z T129.heap wl "java/util/ImmutableCollections$ListN" := (((((f116.ext E114).ext E121).ext E123).keep Kc124).keep Kc129)
        have ne_wl_b136 : wl ≠ b136 := Nat.ne_of_lt (Nat.lt_of_lt_of_le f138.lt (Nat.le_of_eq g136.symm))
        have f139 : Arv Z T129.heap t kt (.object "java/lang/Object") (0 : Int32) [] .null := (((((f117.ext E114).ext E121).ext E123).keep Kc124 (ninS ne_t_b114 nin0)).keep Kc129 (ninS ne_t_b1 (ninS ne_t_b_32 nin0)))
        have ne_t_b136 : t ≠ b136 := Nat.ne_of_lt (Nat.lt_of_lt_of_le f139.lt (Nat.le_of_eq g136.symm))
        have f140 : Exa Z T129.heap we "java/lang/Object" := (((((f118.ext E114).ext E121).ext E123).keep Kc124).keep Kc129)
        have ne_we_b136 : we ≠ b136 := Nat.ne_of_lt (Nat.lt_of_lt_of_le f140.lt (Nat.le_of_eq g136.symm))
        have ne_b1_b136 : b1 ≠ b136 := Nat.ne_of_lt (Nat.lt_of_lt_of_le G129_0.lt (Nat.le_of_eq g136.symm))
        have f141 : Exa Z T129.heap b19 "com/example/kept_inbox/keptinbox/UnreadConversation" := (((((f119.ext E114).ext E121).ext E123).keep Kc124).keep Kc129)
        have ne_b19_b136 : b19 ≠ b136 := Nat.ne_of_lt (Nat.lt_of_lt_of_le f141.lt (Nat.le_of_eq g136.symm))
        have ne_b_32_b136 : b_32 ≠ b136 := Nat.ne_of_lt (Nat.lt_of_lt_of_le G129_4.lt (Nat.le_of_eq g136.symm))
        have f142 : Exa Z T129.heap b66 "com/example/kept_inbox/keptinbox/UnreadConversation" := (((((f120.ext E114).ext E121).ext E123).keep Kc124).keep Kc129)
        have ne_b66_b136 : b66 ≠ b136 := Nat.ne_of_lt (Nat.lt_of_lt_of_le f142.lt (Nat.le_of_eq g136.symm))
        have f143 : Exa Z T129.heap b114 "com/example/kept_inbox/keptinbox/UnreadConversation" := (G124_0.keep Kc129)
        have ne_b114_b136 : b114 ≠ b136 := Nat.ne_of_lt (Nat.lt_of_lt_of_le f143.lt (Nat.le_of_eq g136.symm))
        have g_b136 : n0 ≤ b136 := Nat.le_trans (Nat.le_trans Z0 K129.1) (Nat.le_of_eq g136.symm)
        have sz_b136 : h0.size ≤ b136 := Nat.le_trans K129.1 (Nat.le_of_eq g136.symm)
        refine OGo.by st136 ?_
        have K136 : Keep h0 h136 [] := (K129).ext E136
        have F136_conversations : Fld Z h136 b136 "com/example/kept_inbox/keptinbox/Unread" "conversations" "Ljava/util/List;" .null := D136 (Or.inr (hw _ (List.mem_of_getElem? (i := 68) rfl))) (ty := (.object "java/util/List")) (by decide)
        show OGo p e below _ (T136.setTop (mkF m 112 #[.val (.int i0), .val (.long i1), .second, .val (.long i2), .second, .val (.long i3), .second, .val (.int (i0 &&& (3 : Int32))), .val (.ref b1), .val (.long ((((0 : Int64) + i1) + i2) + i3)), .second, .unset] [(.ref b136)]))
        refine OGo.by (fun _ k => XS.dup X136.here hx rfl (hb hby at_112) rfl rfl k) ?_
        show OGo p e below _ (T136.setTop (mkF m 113 #[.val (.int i0), .val (.long i1), .second, .val (.long i2), .second, .val (.long i3), .second, .val (.int (i0 &&& (3 : Int32))), .val (.ref b1), .val (.long ((((0 : Int64) + i1) + i2) + i3)), .second, .unset] [(.ref b136), (.ref b136)]))
        refine OGo.by (fun _ k => XS.aload X136.here hx rfl (hb hby at_113) rfl rfl k) ?_
        show OGo p e below _ (T136.setTop (mkF m 115 #[.val (.int i0), .val (.long i1), .second, .val (.long i2), .second, .val (.long i3), .second, .val (.int (i0 &&& (3 : Int32))), .val (.ref b1), .val (.long ((((0 : Int64) + i1) + i2) + i3)), .second, .unset] [(.ref b1), (.ref b136), (.ref b136)]))
        have f145 : Exa Z h136 b1 "java/util/ArrayList" := (G129_0.ext E136)
        have f146 : Fld Z h136 b1 "java/util/ArrayList" "size" "I" (.int (3 : Int32)) := (G129_2.ext E136)
        have f147 : Fld Z h136 b1 "java/util/ArrayList" "elementData" "[Ljava/lang/Object;" (.ref b_32) := (G129_3.ext E136)
        have f148 : Arv Z h136 b_32 kb_32 (.object "java/lang/Object") (10 : Int32) [(.ref b19), (.ref b66), (.ref b114), .null, .null, .null, .null, .null, .null, .null] .null := (G129_4.ext E136)
        have f149 : Exa Z h136 b_32 "[Ljava/lang/Object;" := (G129_5.ext E136)
        have f150 : Exa Z h136 b19 "com/example/kept_inbox/keptinbox/UnreadConversation" := (f141.ext E136)
        have f151 : Exa Z h136 b66 "com/example/kept_inbox/keptinbox/UnreadConversation" := (f142.ext E136)
        have f152 : Exa Z h136 b114 "com/example/kept_inbox/keptinbox/UnreadConversation" := (f143.ext E136)
        obtain ⟨_, _, ⟨T144, L144, k144, n144⟩, -, X144, ⟨Lc144, hQ144, l144, y144, z144⟩, st144⟩ := X136.specialBack hx (y := (⟨"com/example/kept_inbox/keptinbox/Unread", "<init>", "(Ljava/util/List;)V"⟩ : MethodName)) rfl hown123 (mvT hZ123 (hw _ (List.mem_of_getElem? (i := 29) rfl))) (mvT hZ123 (hw _ (List.mem_of_getElem? (i := 30) rfl))) (mvT hZ123 (hw _ (List.mem_of_getElem? (i := 31) rfl))) (by decide) (backOf (W := 1) (rm_un3 l Z av0 hw [] b136 b1 b_32 kb_32 mr b19 b66 b114 h136 n0 (Nat.le_trans Z0 K136.1) f145 f146 f147 f148 f149 M_0 f150 f151 f152 A136 F136_conversations g_b136) hZ123 (hw _ (List.mem_of_getElem? (i := 31) rfl)) (hw _ (List.mem_of_getElem? (i := 28) rfl)) (by decide) (by decide)) (g := (mkF m 115 #[.val (.int i0), .val (.long i1), .second, .val (.long i2), .second, .val (.long i3), .second, .val (.int (i0 &&& (3 : Int32))), .val (.ref b1), .val (.long ((((0 : Int64) + i1) + i2) + i3)), .second, .unset] [(.ref b1), (.ref b136), (.ref b136)])) rfl (by rw [hml]; rfl) (Steps.refl _) (a := b136) (argsL := [(.ref b1)]) (rest := [(.ref b136)]) (lenOf own_pd21 rfl) rfl (by show 2 * 0 + _ ≤ _; exact Nat.le_of_eq rfl) (hb hby at_115) (fun _ _ => ⟨rfl, e136, (by decide : 18 + 3 ≤ _), (by decide : 71 + 8 ≤ _)⟩)
        dsimp only [Pt.U, Pt.locs, Pt.cells, Pt.slots] at X144 l144 y144 z144 st144 hQ144
        subst l144 y144 z144
        obtain ⟨b_144, t_144, kt_144, rfl, N144q, Kc144, G144_0, G144_1, G144_2, G144_3, G144_4, G144_5, G144_6, G144_7, G144_8, G144_9⟩ := hQ144
        have N144 := Fr.app N129 N144q
        have f153 : Arv Z h136 w ke (.object "java/lang/Object") (0 : Int32) [] .null := (f137.ext E136)
        have ne_w_b_144 : w ≠ b_144 := Nat.ne_of_lt (Nat.lt_of_lt_of_le f153.lt G144_0)
        have f154 : Exa Z h136 wl "java/util/ImmutableCollections$ListN" := (f138.ext E136)
        have ne_wl_b_144 : wl ≠ b_144 := Nat.ne_of_lt (Nat.lt_of_lt_of_le f154.lt G144_0)
        have f155 : Arv Z h136 t kt (.object "java/lang/Object") (0 : Int32) [] .null := (f139.ext E136)
        have ne_t_b_144 : t ≠ b_144 := Nat.ne_of_lt (Nat.lt_of_lt_of_le f155.lt G144_0)
        have f156 : Exa Z h136 we "java/lang/Object" := (f140.ext E136)
        have ne_we_b_144 : we ≠ b_144 := Nat.ne_of_lt (Nat.lt_of_lt_of_le f156.lt G144_0)
        have ne_b1_b_144 : b1 ≠ b_144 := Nat.ne_of_lt (Nat.lt_of_lt_of_le f145.lt G144_0)
        have ne_b19_b_144 : b19 ≠ b_144 := Nat.ne_of_lt (Nat.lt_of_lt_of_le f150.lt G144_0)
        have ne_b_32_b_144 : b_32 ≠ b_144 := Nat.ne_of_lt (Nat.lt_of_lt_of_le f148.lt G144_0)
        have ne_b66_b_144 : b66 ≠ b_144 := Nat.ne_of_lt (Nat.lt_of_lt_of_le f151.lt G144_0)
        have ne_b114_b_144 : b114 ≠ b_144 := Nat.ne_of_lt (Nat.lt_of_lt_of_le f152.lt G144_0)
        have ne_b136_b_144 : b136 ≠ b_144 := Nat.ne_of_lt (Nat.lt_of_lt_of_le A136.lt G144_0)
        have g_b_144 : n0 ≤ b_144 := Nat.le_trans (Nat.le_trans Z0 K136.1) G144_0
        have sz_b_144 : h0.size ≤ b_144 := Nat.le_trans K136.1 G144_0
        have ne_w_t_144 : w ≠ t_144 := Nat.ne_of_lt (Nat.lt_of_lt_of_le f153.lt G144_2)
        have ne_wl_t_144 : wl ≠ t_144 := Nat.ne_of_lt (Nat.lt_of_lt_of_le f154.lt G144_2)
        have ne_t_t_144 : t ≠ t_144 := Nat.ne_of_lt (Nat.lt_of_lt_of_le f155.lt G144_2)
        have ne_we_t_144 : we ≠ t_144 := Nat.ne_of_lt (Nat.lt_of_lt_of_le f156.lt G144_2)
        have ne_b1_t_144 : b1 ≠ t_144 := Nat.ne_of_lt (Nat.lt_of_lt_of_le f145.lt G144_2)
        have ne_b19_t_144 : b19 ≠ t_144 := Nat.ne_of_lt (Nat.lt_of_lt_of_le f150.lt G144_2)
        have ne_b_32_t_144 : b_32 ≠ t_144 := Nat.ne_of_lt (Nat.lt_of_lt_of_le f148.lt G144_2)
        have ne_b66_t_144 : b66 ≠ t_144 := Nat.ne_of_lt (Nat.lt_of_lt_of_le f151.lt G144_2)
        have ne_b114_t_144 : b114 ≠ t_144 := Nat.ne_of_lt (Nat.lt_of_lt_of_le f152.lt G144_2)
        have ne_b136_t_144 : b136 ≠ t_144 := Nat.ne_of_lt (Nat.lt_of_lt_of_le A136.lt G144_2)
        have g_t_144 : n0 ≤ t_144 := Nat.le_trans (Nat.le_trans Z0 K136.1) G144_2
        have sz_t_144 : h0.size ≤ t_144 := Nat.le_trans K136.1 G144_2
        have K144 : Keep h0 T144.heap [] := (K136).trans Kc144 (allS (P := fun x => x ∈ ([] : List Addr) ∨ h0.size ≤ x) (Or.inr sz_b136) (all0 (P := fun x => x ∈ ([] : List Addr) ∨ h0.size ≤ x)))
        refine OGo.of st144 ?_
        show OGo p e below _ (T144.setTop (mkF m 118 #[.val (.int i0), .val (.long i1), .second, .val (.long i2), .second, .val (.long i3), .second, .val (.int (i0 &&& (3 : Int32))), .val (.ref b1), .val (.long ((((0 : Int64) + i1) + i2) + i3)), .second, .unset] [(.ref b136)]))
        refine OGo.by (fun _ k => XS.astore X144.here hx rfl (hb hby at_118) rfl rfl (l' := #[.val (.int i0), .val (.long i1), .second, .val (.long i2), .second, .val (.long i3), .second, .val (.int (i0 &&& (3 : Int32))), .val (.ref b1), .val (.long ((((0 : Int64) + i1) + i2) + i3)), .second, .val (.ref b136)]) rfl k) ?_
        show OGo p e below _ (T144.setTop (mkF m 120 #[.val (.int i0), .val (.long i1), .second, .val (.long i2), .second, .val (.long i3), .second, .val (.int (i0 &&& (3 : Int32))), .val (.ref b1), .val (.long ((((0 : Int64) + i1) + i2) + i3)), .second, .val (.ref b136)] []))
        refine OGo.by (fun _ k => XS.aload X144.here hx rfl (hb hby at_120) rfl rfl k) ?_
        show OGo p e below _ (T144.setTop (mkF m 122 #[.val (.int i0), .val (.long i1), .second, .val (.long i2), .second, .val (.long i3), .second, .val (.int (i0 &&& (3 : Int32))), .val (.ref b1), .val (.long ((((0 : Int64) + i1) + i2) + i3)), .second, .val (.ref b136)] [(.ref b136)]))
        have f158 : Exa Z T144.heap b19 "com/example/kept_inbox/keptinbox/UnreadConversation" := (f150.keep Kc144)
        have f159 : Fld Z T144.heap b19 "com/example/kept_inbox/keptinbox/UnreadConversation" "waiting" "J" (.long i1) := (((((((((((((G27_1.keep Kc32 (ninS (Ne.symm ne_b1_b19) nin0)).ext E66).ext E72).ext E74).keep Kc75 (ninS ne_b19_b66 nin0)).keep Kc80 (ninS (Ne.symm ne_b1_b19) (ninS ne_b19_b_32 nin0))).ext E114).ext E121).ext E123).keep Kc124 (ninS ne_b19_b114 nin0)).keep Kc129 (ninS (Ne.symm ne_b1_b19) (ninS ne_b19_b_32 nin0))).ext E136).keep Kc144 (ninS ne_b19_b136 nin0))
        have f160 : Exa Z T144.heap b66 "com/example/kept_inbox/keptinbox/UnreadConversation" := (f151.keep Kc144)
        have f161 : Fld Z T144.heap b66 "com/example/kept_inbox/keptinbox/UnreadConversation" "waiting" "J" (.long i2) := ((((((((G75_1.keep Kc80 (ninS (Ne.symm ne_b1_b66) (ninS (Ne.symm ne_b_32_b66) nin0))).ext E114).ext E121).ext E123).keep Kc124 (ninS ne_b66_b114 nin0)).keep Kc129 (ninS (Ne.symm ne_b1_b66) (ninS (Ne.symm ne_b_32_b66) nin0))).ext E136).keep Kc144 (ninS ne_b66_b136 nin0))
        have f162 : Exa Z T144.heap b114 "com/example/kept_inbox/keptinbox/UnreadConversation" := (f152.keep Kc144)
        have f163 : Fld Z T144.heap b114 "com/example/kept_inbox/keptinbox/UnreadConversation" "waiting" "J" (.long i3) := (((G124_1.keep Kc129 (ninS (Ne.symm ne_b1_b114) (ninS (Ne.symm ne_b_32_b114) nin0))).ext E136).keep Kc144 (ninS ne_b114_b136 nin0))
        obtain ⟨cq157, kq157, q157a, q157b, q157c⟩ := isOf hZ123 rfl G144_8
        obtain ⟨_, _, ⟨T157, L157, k157, n157⟩, -, X157, ⟨Lc157, hQ157, l157, y157, z157⟩, st157⟩ := X144.virtualBack hx (y := (⟨"com/example/kept_inbox/keptinbox/Unread", "total", "()J"⟩ : MethodName)) (z := (⟨"com/example/kept_inbox/keptinbox/Unread", "total", "()J"⟩ : MethodName)) hown123 (mvT hZ123 (hw _ (List.mem_of_getElem? (i := 69) rfl))) (mvT hZ123 (hw _ (List.mem_of_getElem? (i := 70) rfl))) (notFace_of_selects (args := #[]) (mvT hZ123 (hw _ (List.mem_of_getElem? (i := 72) rfl)))) (mvT hZ123 (hw _ (List.mem_of_getElem? (i := 72) rfl))) (mvT hZ123 (hw _ (List.mem_of_getElem? (i := 71) rfl))) (by decide) (backOf (W := 0) (rm_tot3 l Z av0 hw [] b136 b_144 t_144 kt_144 b19 b66 b114 i1 i2 i3 T144.heap n0 (Nat.le_trans Z0 K144.1) G144_9 G144_5 G144_6 G144_7 f158 f159 f160 f161 f162 f163) hZ123 (hw _ (List.mem_of_getElem? (i := 73) rfl)) (hw _ (List.mem_of_getElem? (i := 28) rfl)) (by decide) (by decide)) q157a q157c (g := (mkF m 122 #[.val (.int i0), .val (.long i1), .second, .val (.long i2), .second, .val (.long i3), .second, .val (.int (i0 &&& (3 : Int32))), .val (.ref b1), .val (.long ((((0 : Int64) + i1) + i2) + i3)), .second, .val (.ref b136)] [(.ref b136)])) rfl (by rw [hml]; rfl) (Steps.refl _) (argsL := []) (rest := []) (lenOf own_pd20 rfl) rfl (by show 2 * 0 + _ ≤ _; exact Nat.le_of_eq rfl) (hb hby at_122) (fun _ _ => ⟨rfl, rfl, (by decide : 21 + 1 ≤ _), (by decide : 79 + 4 ≤ _)⟩)
        dsimp only [Pt.U, Pt.locs, Pt.cells, Pt.slots] at X157 l157 y157 z157 st157 hQ157
        subst l157 y157 z157
        obtain ⟨rfl, N157q, Kc157⟩ := hQ157
        have N157 := Fr.app N144 N157q
        have K157 : Keep h0 T157.heap [] := (K144).trans Kc157 (all0 (P := fun x => x ∈ ([] : List Addr) ∨ h0.size ≤ x))
        refine OGo.of st157 ?_
        show OGo p e below _ (T157.setTop (mkF m 125 #[.val (.int i0), .val (.long i1), .second, .val (.long i2), .second, .val (.long i3), .second, .val (.int (i0 &&& (3 : Int32))), .val (.ref b1), .val (.long ((((0 : Int64) + i1) + i2) + i3)), .second, .val (.ref b136)] [(.long ((((0 : Int64) + i1) + i2) + i3))]))
        refine OGo.by (fun _ k => XS.lload X157.here hx rfl (hb hby at_125) rfl k) ?_
        show OGo p e below _ (T157.setTop (mkF m 127 #[.val (.int i0), .val (.long i1), .second, .val (.long i2), .second, .val (.long i3), .second, .val (.int (i0 &&& (3 : Int32))), .val (.ref b1), .val (.long ((((0 : Int64) + i1) + i2) + i3)), .second, .val (.ref b136)] [(.long ((((0 : Int64) + i1) + i2) + i3)), (.long ((((0 : Int64) + i1) + i2) + i3))]))
        refine OGo.by (fun _ k => XS.lcmp X157.here hx rfl (hb hby at_127) rfl k) ?_
        show OGo p e below _ (T157.setTop (mkF m 128 #[.val (.int i0), .val (.long i1), .second, .val (.long i2), .second, .val (.long i3), .second, .val (.int (i0 &&& (3 : Int32))), .val (.ref b1), .val (.long ((((0 : Int64) + i1) + i2) + i3)), .second, .val (.ref b136)] [(.int (lcmpW ((((0 : Int64) + i1) + i2) + i3) ((((0 : Int64) + i1) + i2) + i3)))]))
        refine OGo.by (fun _ k => XS.ifNo X157.here hx rfl (hb hby at_128) rfl ((if0 _ _).trans (teq ((lw_eq _ _).mpr (rfl : ((((0 : Int64) + i1) + i2) + i3) = ((((0 : Int64) + i1) + i2) + i3)))).2) k) ?_
        show OGo p e below _ (T157.setTop (mkF m 131 #[.val (.int i0), .val (.long i1), .second, .val (.long i2), .second, .val (.long i3), .second, .val (.int (i0 &&& (3 : Int32))), .val (.ref b1), .val (.long ((((0 : Int64) + i1) + i2) + i3)), .second, .val (.ref b136)] []))
        refine OGo.by (fun _ k => XS.iconst X157.here hx rfl (hb hby at_131) k) ?_
        show OGo p e below _ (T157.setTop (mkF m 132 #[.val (.int i0), .val (.long i1), .second, .val (.long i2), .second, .val (.long i3), .second, .val (.int (i0 &&& (3 : Int32))), .val (.ref b1), .val (.long ((((0 : Int64) + i1) + i2) + i3)), .second, .val (.ref b136)] [(.int (1 : Int32))]))
        refine OGo.by (fun _ k => XS.goto X157.here hx rfl (pc0 := 132) (pc' := 136) rfl (hb hby at_132) (by decide) (by decide) k) ?_
        show OGo p e below _ (T157.setTop (mkF m 136 #[.val (.int i0), .val (.long i1), .second, .val (.long i2), .second, .val (.long i3), .second, .val (.int (i0 &&& (3 : Int32))), .val (.ref b1), .val (.long ((((0 : Int64) + i1) + i2) + i3)), .second, .val (.ref b136)] [(.int (1 : Int32))]))
        have f164 : k123 ≤ T157.heap.size := (Nat.le_trans (Nat.le_trans (Nat.le_trans (Nat.le_trans (Nat.le_trans hk123 Kc124.1) Kc129.1) E136.1) Kc144.1) Kc157.1)
        obtain ⟨fs, hr, hrun, hended, hRE⟩ := Stand.leaveW (s := s) (vm₁ := T123.vm) X157 hS123 (by exact f164) (v := some (.int (1 : Int32))) (fun h => by rw [Bd.returns] at h; cases h)
        refine OGo.ret (retN X157 hx (t := .boolean) Bd.returns (by simp) (hb hby at_136) hr) hrun hended ⟨_, _, rfl, ?_, hRE.1, hRE.2.1, hRE.2.2.1, hRE.2.2.2.mono (by decide) (by decide)⟩
        show Q_rm0 Z i0 i1 i2 i3 w ke wl t kt we mr h0 n0 _ T157.heap _
        exact ⟨rfl, N157⟩
set_option maxRecDepth 65536 in
set_option maxHeartbeats 40000000 in
theorem comes_1 {Post : Tables → Env → Array Value → State → Outcome → State → Prop} (hpost : ∀ tb e args s v u, (limb_1_1.after args s (.returned v) u = true ∧ limb_1_2.after args s (.returned v) u = true ∧ True) → ReturnedEndW s (.returned v) u (Jvm.fieldLocs frame_1_writes args s ++ Jvm.arrayLocs frame_1_arrays args s ++ Jvm.staticLocs frame_1_statics s) 40 6336 → Post tb e args s (.returned v) u) :
    ArmFor flags0 classFile x code maxLocals ret World_1 tables_1 room_1 Calls_1 rest_1 Pre_1 Post := by
  intro l hfl _ _ p e ha hc hk s m args below hf hA hF happ hP
  obtain ⟨hcalls, hrest, hpre⟩ := hP
  obtain ⟨-, -, -, hnamed, -, -, -, hat⟩ := (Spec.applies_iff hf).mp happ
  obtain ⟨hg, hn⟩ := and_e (Cond.before_iff.mp (show (Jvm.Cond.and given_1 narrow_1).before args s = true from hpre))
  obtain ⟨hg0, hgr⟩ := and_e hg
  obtain ⟨hv0, hgr0⟩ := and_e hgr
  obtain ⟨hv1, hgr1⟩ := and_e hgr0
  obtain ⟨hv2, hgr2⟩ := and_e hgr1
  obtain ⟨w0, w1, w2, w3, rfl⟩ : ∃ w0 w1 w2 w3 : Value, args = #[w0, w1, w2, w3] := by
    have hs : args.size = 4 := by simpa [Cond.value, given_1] using hg0
    obtain ⟨L⟩ := args
    match L, hs with
    | [w0, w1, w2, w3], _ => exact ⟨w0, w1, w2, w3, rfl⟩
  have hw := fun d (hd : d ∈ tables_1) => atoms_spec (ws := Jvm.Cond.code x code maxLocals ret :: tables_1) hat d (List.mem_cons_of_mem _ hd)
  have hfit : Fit s := fun {y c} hc i hi => by
    obtain ⟨ha, rfl⟩ := Array.getElem?_eq_some_iff.mp hc
    have q := List.all_eq_true.mp ((Array.all_eq_true_iff_forall_mem.mp hF) _ (Array.getElem_mem ha)) i (List.mem_range.mpr hi)
    simpa [Array.getElem?_eq_getElem hi] using q
  obtain ⟨hsets, hown0⟩ := atoms_of _ (rest_1_c_eq ▸ (show rest_1_c.before _ s = true from hrest))
  have hr0 := Cond.before_iff.mp hown0
  obtain ⟨i0, ei0⟩ := is_v hv0
  obtain rfl : w0 = (.int i0) := Option.some.inj ei0
  obtain ⟨i1, ei1⟩ := isL_v hv1
  obtain rfl : w1 = (.long i1) := Option.some.inj ei1
  obtain ⟨i2, ei2⟩ := isL_v hv2
  obtain rfl : w2 = (.long i2) := Option.some.inj ei2
  obtain ⟨i3, ei3⟩ := isL_v hgr2
  obtain rfl : w3 = (.long i3) := Option.some.inj ei3
  obtain ⟨cm, km, mr, m1, m2, m3, m4⟩ := hcalls.1
  have M0 : Mir s "[Ljava/lang/Object;" mr := ⟨cm, km, m1, m2, m3, m4⟩
  obtain ⟨w, vw⟩ := exa_v (Cond.before_iff.mp (hsets _ (List.mem_of_getElem? (i := 7) rfl)))
  have S_d := Sta.start vw (Or.inr ⟨(hw _ (List.mem_of_getElem? (i := 2) rfl)), (hsets _ (List.mem_of_getElem? (i := 2) rfl))⟩)
  have A_w := own_arr0 hfit vw (Cond.before_iff.mp (hsets _ (List.mem_of_getElem? (i := 6) rfl))) (Cond.before_iff.mp (hsets _ (List.mem_of_getElem? (i := 8) rfl)))
  obtain ⟨wl, vl⟩ := exa_v (Cond.before_iff.mp (hsets _ (List.mem_of_getElem? (i := 11) rfl)))
  have S_l := Sta.start vl (Or.inl (hsets _ (List.mem_of_getElem? (i := 10) rfl)))
  have E_l := Exa.start vl (Cond.before_iff.mp (hsets _ (List.mem_of_getElem? (i := 11) rfl)))
  obtain ⟨t, vt⟩ := exa_v (Cond.before_iff.mp (hsets _ (List.mem_of_getElem? (i := 13) rfl)))
  have F_t := Fld.start ((fld_at vl).symm.trans vt)
  have A_t := own_arr0 hfit vt (Cond.before_iff.mp (hsets _ (List.mem_of_getElem? (i := 12) rfl))) (Cond.before_iff.mp (hsets _ (List.mem_of_getElem? (i := 14) rfl)))
  obtain ⟨we, ve⟩ := exa_v (Cond.before_iff.mp (hsets _ (List.mem_of_getElem? (i := 18) rfl)))
  have S_e := Sta.start ve (Or.inl (hsets _ (List.mem_of_getElem? (i := 17) rfl)))
  have E_e := Exa.start ve (Cond.before_iff.mp (hsets _ (List.mem_of_getElem? (i := 18) rfl)))
  obtain ⟨ke, A_w⟩ := A_w
  obtain ⟨kt, A_t⟩ := A_t
  obtain ⟨n, o, h1, h2, h3, _, L, rfl, ⟨rfl, N⟩, hq⟩ := rm0 l s _ hw tables_1 i0 i1 i2 i3 w ke wl t kt we mr s.heap s.heap.size (Nat.le_refl _) (Old.start s) S_d A_w S_l E_l F_t A_t S_e E_e M0 p e ha hc hk s m _ below hf ((Spec.applies_iff_loose hf).mp happ).1 ⟨rfl, State.Warmed39.refl s, rfl⟩ trivial
  refine ⟨n, _, h1, h2, h3, hpost _ _ _ _ _ _ ⟨Cond.after_iff.mpr rfl, Cond.after_iff.mpr (eq_i res_at (Term.int_eval (1)) rfl), trivial⟩ ⟨hq.1, hq.2.1, hq.2.2.1, (hq.2.2.2.sift fun y hy => Or.inr (N y hy)).mono (by decide) (by decide)⟩⟩
theorem main_1_1 : Claimed_1_1 := comes_1 fun _ _ _ _ _ _ h hF => ⟨h.1, hF⟩
theorem main_1_2 : Claimed_1_2 := comes_1 fun _ _ _ _ _ _ h hF => ⟨h.2.1, hF⟩
end Jvm.Pilot.@@N@@
namespace Jvm.Pilot.@@N@@
open Jvm Jvm.ClassFile Sem Op Lib Jvm.Free Jvm.Stand Jvm.Pilot.@@N@@.Jvm.D
/-! MADE BY PROGRAM (witnessworld.py) out of the Statement's table words and the real class files: 38 classes; the members and pool entries that the words name. The judged class is class 1, her method 1. -/
namespace start1
open Jvm.ClassFile
def u (s : String) : CpInfo := .utf8 (stringToUtf16 s)
/-- a pool by its gaps: so many unusable entries, then the entry; so many at the end -/
def gap : Nat → List CpInfo → List CpInfo
  | 0, r => r
  | n + 1, r => .unusable :: gap n r
def poolList (es : List (Nat × CpInfo)) (last : Nat) : List CpInfo := es.foldr (fun e r => gap e.1 (e.2 :: r)) (gap last [])
def pool (es : List (Nat × CpInfo)) (last : Nat) : Array CpInfo := ⟨poolList es last⟩
def fileOf (pool : Array CpInfo) (this : Nat) (attrs : Array Attribute := #[]) (ms : Array MethodInfo := #[]) (fl : Nat := 33) (sup : Nat := 0) (ifs : Array Nat := #[]) (fds : Array FieldInfo := #[]) : ClassFile where
  minorVersion := 0
  majorVersion := 65
  constantPool := pool
  accessFlags := fl
  thisClass := this
  superClass := sup
  interfaces := ifs
  fields := fds
  methods := ms
  attributes := attrs
def plain (name : String) (sup : Option ClassId) : Class where
  name := name
  kind := .ordinary
  loader := none
  accessFlags := 33
  super := sup
  interfaces := #[]
  cf := none
  fields := #[]
  methods := #[]
  instanceTypes := #[]
  staticTypes := #[]
  resolved := #[]
  callSites := []
  init := .initialized
  statics := none
  mirror := none

def pool0 : Array CpInfo := pool [(5, u "<init>"), (0, u "()V"), (1, .class_ 10), (1, u "java/lang/Object"), (0, u "getClass"), (0, u "()Ljava/lang/Class;")] 111

def k0c0 : Code := { maxStack := 0, maxLocals := 1, code := object_method_1_code, exceptionTable := #[], attributes := #[] }
def k0m0 : Method := { name := "<init>", desc := "()V", sig := { parameters := [], returnType := none }, accessFlags := 1, code := some k0c0 }
def k0m1 : Method := { name := "getClass", desc := "()Ljava/lang/Class;", sig := { parameters := [], returnType := some (.object "java/lang/Class") }, accessFlags := 273, code := none }
/-- java/lang/Object -/
def k0 : Class := { plain "java/lang/Object" none with
  accessFlags := 33
  interfaces := #[]
  cf := some (fileOf pool0 8 #[] #[{ accessFlags := 1, nameIndex := 5, descriptorIndex := 6, attributes := #[] }, { accessFlags := 273, nameIndex := 11, descriptorIndex := 12, attributes := #[] }] 33 0 #[] #[])
  fields := #[]
  methods := #[k0m0, k0m1]
  instanceTypes := #[]
  staticTypes := #[]
  resolved := Array.replicate 124 none
  statics := none }

def pool1 : Array CpInfo := pool [(2, .class_ 4), (0, .nameAndType 5 6), (0, u "java/lang/Object"), (0, u "<init>"), (0, u "()V"), (0, .class_ 8), (0, u "java/util/ArrayList"), (0, .methodref 7 3), (0, .class_ 11), (0, u "com/example/kept_inbox/keptinbox/UnreadConversation"), (0, .string 13), (0, u "a"), (0, .string 15), (0, u "t"), (0, .methodref 10 17), (0, .nameAndType 5 18), (0, u "(Ljava/lang/String;JLjava/lang/String;)V"), (0, .methodref 7 20), (0, .nameAndType 21 22), (0, u "add"), (0, u "(Ljava/lang/Object;)Z"), (0, .string 24), (0, u "b"), (0, .string 26), (0, u "u"), (0, .string 28), (0, u "c"), (0, .string 30), (0, u "v"), (0, .class_ 32), (0, u "com/example/kept_inbox/keptinbox/Unread"), (0, .methodref 31 34), (0, .nameAndType 5 35), (0, u "(Ljava/util/List;)V"), (0, .methodref 31 37), (0, .nameAndType 38 39), (0, u "total"), (0, u "()J"), (0, .class_ 41), (0, u "com/example/kept_inbox/keptinbox/UnreadTotalPinLaw"), (2, u "law"), (0, u "(IJJJ)Z")] 3

def k1m0 : Method := { name := "<init>", desc := "()V", sig := { parameters := [], returnType := none }, accessFlags := 1, code := none }
def k1c1 : Code := { maxStack := 7, maxLocals := 12, code := code, exceptionTable := #[], attributes := #[] }
def k1m1 : Method := { name := "law", desc := "(IJJJ)Z", sig := { parameters := [.int, .long, .long, .long], returnType := some .boolean }, accessFlags := 9, code := some k1c1 }
/-- com/example/kept_inbox/keptinbox/UnreadTotalPinLaw -/
def k1 : Class := { plain "com/example/kept_inbox/keptinbox/UnreadTotalPinLaw" (some 0) with
  accessFlags := 49
  interfaces := #[]
  cf := some (fileOf pool1 40 #[] #[{ accessFlags := 1, nameIndex := 5, descriptorIndex := 6, attributes := #[] }, { accessFlags := 9, nameIndex := 44, descriptorIndex := 45, attributes := #[] }] 49 2 #[] #[])
  fields := #[]
  methods := #[k1m0, k1m1]
  instanceTypes := #[]
  staticTypes := #[]
  resolved := Array.replicate 49 none
  statics := none }

def pool2 : Array CpInfo := pool [(8, .class_ 10), (1, u "java/lang/Iterable"), (24, .class_ 36), (0, u "java/lang/Object")] 25

/-- java/lang/Iterable -/
def k2 : Class := { plain "java/lang/Iterable" (some 0) with
  accessFlags := 1537
  interfaces := #[]
  cf := some (fileOf pool2 8 #[] #[] 1537 35 #[] #[])
  fields := #[]
  methods := #[]
  instanceTypes := #[]
  staticTypes := #[]
  resolved := Array.replicate 62 none
  statics := none }

def pool3 : Array CpInfo := pool [(10, .class_ 12), (1, u "java/util/Collection"), (0, u "toArray"), (16, u "()Z"), (29, .class_ 61), (0, u "java/lang/Object"), (0, .class_ 63), (0, u "java/lang/Iterable"), (2, u "isEmpty"), (3, u "()[Ljava/lang/Object;")] 44

def k3m0 : Method := { name := "isEmpty", desc := "()Z", sig := { parameters := [], returnType := some .boolean }, accessFlags := 1025, code := none }
def k3m1 : Method := { name := "toArray", desc := "()[Ljava/lang/Object;", sig := { parameters := [], returnType := some (.array (.object "java/lang/Object")) }, accessFlags := 1025, code := none }
/-- java/util/Collection -/
def k3 : Class := { plain "java/util/Collection" (some 0) with
  accessFlags := 1537
  interfaces := #[2]
  cf := some (fileOf pool3 10 #[] #[{ accessFlags := 1025, nameIndex := 66, descriptorIndex := 30, attributes := #[] }, { accessFlags := 1025, nameIndex := 13, descriptorIndex := 70, attributes := #[] }] 1537 60 #[62] #[])
  fields := #[]
  methods := #[k3m0, k3m1]
  instanceTypes := #[]
  staticTypes := #[]
  resolved := Array.replicate 115 none
  statics := none }

def pool4 : Array CpInfo := pool [(1, .methodref 2 3), (0, .class_ 4), (0, .nameAndType 5 6), (0, u "java/lang/Object"), (0, u "<init>"), (0, u "()V"), (1, .class_ 10), (1, u "java/util/AbstractCollection"), (0, u "size"), (0, u "()I"), (64, .class_ 78), (0, u "java/util/Collection")] 81

def k4c0 : Code := { maxStack := 1, maxLocals := 1, code := jdk_22_method_1_code, exceptionTable := #[], attributes := #[] }
def k4m0 : Method := { name := "<init>", desc := "()V", sig := { parameters := [], returnType := none }, accessFlags := 4, code := some k4c0 }
def k4m1 : Method := { name := "size", desc := "()I", sig := { parameters := [], returnType := some .int }, accessFlags := 1025, code := none }
/-- java/util/AbstractCollection -/
def k4 : Class := { plain "java/util/AbstractCollection" (some 0) with
  accessFlags := 1057
  interfaces := #[3]
  cf := some (fileOf pool4 8 #[] #[{ accessFlags := 4, nameIndex := 5, descriptorIndex := 6, attributes := #[] }, { accessFlags := 1025, nameIndex := 11, descriptorIndex := 12, attributes := #[] }] 1057 2 #[77] #[])
  fields := #[]
  methods := #[k4m0, k4m1]
  instanceTypes := #[]
  staticTypes := #[]
  resolved := Array.replicate 160 none
  statics := none }

def pool5 : Array CpInfo := pool [(8, .class_ 10), (1, u "java/util/SequencedCollection"), (15, .class_ 27), (0, u "java/lang/Object"), (0, .class_ 29), (0, u "java/util/Collection")] 27

/-- java/util/SequencedCollection -/
def k5 : Class := { plain "java/util/SequencedCollection" (some 0) with
  accessFlags := 1537
  interfaces := #[3]
  cf := some (fileOf pool5 8 #[] #[] 1537 26 #[28] #[])
  fields := #[]
  methods := #[]
  instanceTypes := #[]
  staticTypes := #[]
  resolved := Array.replicate 57 none
  statics := none }

def pool6 : Array CpInfo := pool [(8, .class_ 10), (1, u "java/util/List"), (20, u "(Ljava/lang/Object;)V"), (16, u "<init>"), (26, u "get"), (0, u "(I)Ljava/lang/Object;"), (11, u "of"), (1, .fieldref 91 92), (0, .class_ 93), (0, .nameAndType 94 95), (0, u "java/util/ImmutableCollections"), (0, u "EMPTY_LIST"), (0, u "Ljava/util/ImmutableCollections$ListN;"), (0, .class_ 97), (0, u "java/util/ImmutableCollections$List12"), (0, .methodref 96 99), (0, .nameAndType 48 31), (0, .methodref 96 101), (0, .nameAndType 48 102), (0, u "(Ljava/lang/Object;Ljava/lang/Object;)V"), (0, .class_ 104), (0, u "java/lang/Object"), (3, u "([Ljava/lang/Object;)Ljava/util/List;"), (0, .methodref 91 110), (0, .nameAndType 111 108), (0, u "listFromArray"), (0, .methodref 91 113), (0, .nameAndType 114 115), (0, u "listCopy"), (0, u "(Ljava/util/Collection;)Ljava/util/List;"), (3, u "()Ljava/util/List;"), (0, .class_ 121), (0, u "java/util/SequencedCollection"), (1, u "iterator"), (0, u "()Ljava/util/Iterator;"), (109, u "copyOf")] 16

def k6m0 : Method := { name := "iterator", desc := "()Ljava/util/Iterator;", sig := { parameters := [], returnType := some (.object "java/util/Iterator") }, accessFlags := 1025, code := none }
def k6m1 : Method := { name := "get", desc := "(I)Ljava/lang/Object;", sig := { parameters := [.int], returnType := some (.object "java/lang/Object") }, accessFlags := 1025, code := none }
def k6c2 : Code := { maxStack := 1, maxLocals := 0, code := jdk_40_method_36_code, exceptionTable := #[], attributes := #[] }
def k6m2 : Method := { name := "of", desc := "()Ljava/util/List;", sig := { parameters := [], returnType := some (.object "java/util/List") }, accessFlags := 9, code := some k6c2 }
def k6c3 : Code := { maxStack := 5, maxLocals := 2, code := jdk_40_method_47_code, exceptionTable := #[], attributes := #[] }
def k6m3 : Method := { name := "of", desc := "([Ljava/lang/Object;)Ljava/util/List;", sig := { parameters := [(.array (.object "java/lang/Object"))], returnType := some (.object "java/util/List") }, accessFlags := 137, code := some k6c3 }
def k6c4 : Code := { maxStack := 1, maxLocals := 1, code := jdk_40_method_48_code, exceptionTable := #[], attributes := #[] }
def k6m4 : Method := { name := "copyOf", desc := "(Ljava/util/Collection;)Ljava/util/List;", sig := { parameters := [(.object "java/util/Collection")], returnType := some (.object "java/util/List") }, accessFlags := 9, code := some k6c4 }
/-- java/util/List -/
def k6 : Class := { plain "java/util/List" (some 0) with
  accessFlags := 1537
  interfaces := #[5]
  cf := some (fileOf pool6 8 #[] #[{ accessFlags := 1025, nameIndex := 123, descriptorIndex := 124, attributes := #[] }, { accessFlags := 1025, nameIndex := 75, descriptorIndex := 76, attributes := #[] }, { accessFlags := 9, nameIndex := 88, descriptorIndex := 119, attributes := #[] }, { accessFlags := 137, nameIndex := 88, descriptorIndex := 108, attributes := #[] }, { accessFlags := 9, nameIndex := 234, descriptorIndex := 115, attributes := #[] }] 1537 103 #[120] #[])
  fields := #[]
  methods := #[k6m0, k6m1, k6m2, k6m3, k6m4]
  instanceTypes := #[]
  staticTypes := #[]
  resolved := Array.replicate 251 none
  statics := none }

def pool7 : Array CpInfo := pool [(1, .methodref 2 3), (0, .class_ 4), (0, .nameAndType 5 6), (0, u "java/util/AbstractCollection"), (0, u "<init>"), (0, u "()V"), (0, .fieldref 8 9), (0, .class_ 10), (0, .nameAndType 11 12), (0, u "java/util/AbstractList"), (0, u "modCount"), (0, u "I"), (64, .class_ 78), (0, u "java/util/AbstractList$Itr"), (3, .class_ 83), (0, u "java/util/AbstractList$ListItr"), (9, .class_ 94), (0, u "java/util/AbstractList$RandomAccessSubList"), (3, .class_ 99), (0, u "java/util/AbstractList$SubList"), (33, .class_ 134), (0, u "java/util/List"), (73, .class_ 209), (0, u "java/util/AbstractList$SubList$1"), (0, .class_ 211), (0, u "java/util/AbstractList$RandomAccessSpliterator")] 6

def k7c0 : Code := { maxStack := 2, maxLocals := 1, code := jdk_39_method_1_code, exceptionTable := #[], attributes := #[] }
def k7m0 : Method := { name := "<init>", desc := "()V", sig := { parameters := [], returnType := none }, accessFlags := 4, code := some k7c0 }
/-- java/util/AbstractList -/
def k7 : Class := { plain "java/util/AbstractList" (some 4) with
  accessFlags := 1057
  interfaces := #[6]
  cf := some (fileOf pool7 8 #[.nestMembers #[93, 98, 208, 210, 82, 77]] #[{ accessFlags := 4, nameIndex := 5, descriptorIndex := 6, attributes := #[] }] 1057 2 #[133] #[{ accessFlags := 132, nameIndex := 11, descriptorIndex := 12, attributes := #[] }])
  fields := #[{ name := "modCount", type := .int, accessFlags := 132, slot := 0, constantValue := 0 }]
  methods := #[k7m0]
  instanceTypes := #[.int]
  staticTypes := #[]
  resolved := Array.replicate 218 none
  statics := none }

def pool8 : Array CpInfo := pool [(1, .class_ 2), (0, u "java/util/RandomAccess"), (0, .class_ 4), (0, u "java/lang/Object")] 2

/-- java/util/RandomAccess -/
def k8 : Class := { plain "java/util/RandomAccess" (some 0) with
  accessFlags := 1537
  interfaces := #[]
  cf := some (fileOf pool8 1 #[] #[] 1537 3 #[] #[])
  fields := #[]
  methods := #[]
  instanceTypes := #[]
  staticTypes := #[]
  resolved := Array.replicate 7 none
  statics := none }

def pool9 : Array CpInfo := pool [(1, .class_ 2), (0, u "java/lang/Cloneable"), (0, .class_ 4), (0, u "java/lang/Object")] 2

/-- java/lang/Cloneable -/
def k9 : Class := { plain "java/lang/Cloneable" (some 0) with
  accessFlags := 1537
  interfaces := #[]
  cf := some (fileOf pool9 1 #[] #[] 1537 3 #[] #[])
  fields := #[]
  methods := #[]
  instanceTypes := #[]
  staticTypes := #[]
  resolved := Array.replicate 7 none
  statics := none }

def pool10 : Array CpInfo := pool [(1, .class_ 2), (0, u "java/io/Serializable"), (0, .class_ 4), (0, u "java/lang/Object")] 2

/-- java/io/Serializable -/
def k10 : Class := { plain "java/io/Serializable" (some 0) with
  accessFlags := 1537
  interfaces := #[]
  cf := some (fileOf pool10 1 #[] #[] 1537 3 #[] #[])
  fields := #[]
  methods := #[]
  instanceTypes := #[]
  staticTypes := #[]
  resolved := Array.replicate 7 none
  statics := none }

def pool11 : Array CpInfo := pool [(1, .methodref 2 3), (0, .class_ 4), (0, .nameAndType 5 6), (0, u "java/util/AbstractList"), (0, u "<init>"), (0, u "()V"), (0, .class_ 8), (0, u "java/lang/Object"), (0, .fieldref 10 11), (0, .class_ 12), (0, .nameAndType 13 14), (0, u "java/util/ArrayList"), (0, u "elementData"), (0, u "[Ljava/lang/Object;"), (2, u "EMPTY_ELEMENTDATA"), (21, .fieldref 10 40), (0, .nameAndType 41 14), (0, u "DEFAULTCAPACITY_EMPTY_ELEMENTDATA"), (4, u "toArray"), (0, u "()[Ljava/lang/Object;"), (0, .fieldref 10 49), (0, .nameAndType 50 51), (0, u "size"), (0, u "I"), (6, .class_ 60), (1, u "java/util/Arrays"), (0, u "copyOf"), (1, .fieldref 10 64), (0, .nameAndType 65 51), (0, u "modCount"), (0, .methodref 58 67), (0, .nameAndType 61 68), (0, u "([Ljava/lang/Object;I)[Ljava/lang/Object;"), (0, .methodref 10 70), (0, .nameAndType 71 72), (0, u "grow"), (0, u "(I)[Ljava/lang/Object;"), (6, .methodref 80 81), (0, .class_ 82), (0, .nameAndType 83 84), (0, u "java/lang/Math"), (0, u "max"), (0, u "(II)I"), (11, u "(Ljava/lang/Object;)Z"), (32, .methodref 10 130), (0, .nameAndType 71 47), (0, .methodref 10 132), (0, .nameAndType 133 134), (0, u "add"), (0, u "(Ljava/lang/Object;[Ljava/lang/Object;I)V"), (13, .class_ 149), (0, u "java/util/List"), (23, u "()Z"), (88, .class_ 263), (0, u "java/util/ArrayList$ListItr"), (3, .class_ 268), (0, u "java/util/ArrayList$Itr"), (7, .class_ 277), (0, u "java/util/ArrayList$SubList"), (12, .class_ 291), (0, u "java/util/ArrayList$ArrayListSpliterator"), (37, .class_ 330), (0, u "java/util/RandomAccess"), (0, .class_ 332), (0, u "java/lang/Cloneable"), (0, .class_ 334), (0, u "java/io/Serializable"), (0, u "serialVersionUID"), (0, u "J"), (3, u "DEFAULT_CAPACITY"), (22, u "isEmpty"), (136, .class_ 501), (0, u "java/util/ArrayList$SubList$2"), (0, .class_ 503), (0, u "java/util/ArrayList$SubList$1")] 5

def k11c0 : Code := { maxStack := 2, maxLocals := 1, code := jdk_38_method_2_code, exceptionTable := #[], attributes := #[] }
def k11m0 : Method := { name := "<init>", desc := "()V", sig := { parameters := [], returnType := none }, accessFlags := 1, code := some k11c0 }
def k11c1 : Code := { maxStack := 4, maxLocals := 4, code := jdk_38_method_6_code, exceptionTable := #[], attributes := #[] }
def k11m1 : Method := { name := "grow", desc := "(I)[Ljava/lang/Object;", sig := { parameters := [.int], returnType := some (.array (.object "java/lang/Object")) }, accessFlags := 2, code := some k11c1 }
def k11c2 : Code := { maxStack := 3, maxLocals := 1, code := jdk_38_method_7_code, exceptionTable := #[], attributes := #[] }
def k11m2 : Method := { name := "grow", desc := "()[Ljava/lang/Object;", sig := { parameters := [], returnType := some (.array (.object "java/lang/Object")) }, accessFlags := 2, code := some k11c2 }
def k11c3 : Code := { maxStack := 1, maxLocals := 1, code := jdk_38_method_9_code, exceptionTable := #[], attributes := #[] }
def k11m3 : Method := { name := "isEmpty", desc := "()Z", sig := { parameters := [], returnType := some .boolean }, accessFlags := 1, code := some k11c3 }
def k11c4 : Code := { maxStack := 2, maxLocals := 1, code := jdk_38_method_16_code, exceptionTable := #[], attributes := #[] }
def k11m4 : Method := { name := "toArray", desc := "()[Ljava/lang/Object;", sig := { parameters := [], returnType := some (.array (.object "java/lang/Object")) }, accessFlags := 1, code := some k11c4 }
def k11c5 : Code := { maxStack := 3, maxLocals := 4, code := jdk_38_method_24_code, exceptionTable := #[], attributes := #[] }
def k11m5 : Method := { name := "add", desc := "(Ljava/lang/Object;[Ljava/lang/Object;I)V", sig := { parameters := [(.object "java/lang/Object"), (.array (.object "java/lang/Object")), .int], returnType := none }, accessFlags := 2, code := some k11c5 }
def k11c6 : Code := { maxStack := 4, maxLocals := 2, code := jdk_38_method_25_code, exceptionTable := #[], attributes := #[] }
def k11m6 : Method := { name := "add", desc := "(Ljava/lang/Object;)Z", sig := { parameters := [(.object "java/lang/Object")], returnType := some .boolean }, accessFlags := 1, code := some k11c6 }
/-- java/util/ArrayList -/
def k11 : Class := { plain "java/util/ArrayList" (some 7) with
  accessFlags := 33
  interfaces := #[6, 8, 9, 10]
  cf := some (fileOf pool11 10 #[.nestMembers #[290, 276, 500, 502, 262, 267]] #[{ accessFlags := 1, nameIndex := 5, descriptorIndex := 6, attributes := #[] }, { accessFlags := 2, nameIndex := 71, descriptorIndex := 72, attributes := #[] }, { accessFlags := 2, nameIndex := 71, descriptorIndex := 47, attributes := #[] }, { accessFlags := 1, nameIndex := 363, descriptorIndex := 173, attributes := #[] }, { accessFlags := 1, nameIndex := 46, descriptorIndex := 47, attributes := #[] }, { accessFlags := 2, nameIndex := 133, descriptorIndex := 134, attributes := #[] }, { accessFlags := 1, nameIndex := 133, descriptorIndex := 96, attributes := #[] }] 33 2 #[148, 329, 331, 333] #[{ accessFlags := 26, nameIndex := 335, descriptorIndex := 336, attributes := #[] }, { accessFlags := 26, nameIndex := 340, descriptorIndex := 51, attributes := #[] }, { accessFlags := 26, nameIndex := 17, descriptorIndex := 14, attributes := #[] }, { accessFlags := 26, nameIndex := 41, descriptorIndex := 14, attributes := #[] }, { accessFlags := 128, nameIndex := 13, descriptorIndex := 14, attributes := #[] }, { accessFlags := 2, nameIndex := 50, descriptorIndex := 51, attributes := #[] }])
  fields := #[{ name := "serialVersionUID", type := .long, accessFlags := 26, slot := 0, constantValue := 0 }, { name := "DEFAULT_CAPACITY", type := .int, accessFlags := 26, slot := 1, constantValue := 0 }, { name := "EMPTY_ELEMENTDATA", type := (.array (.object "java/lang/Object")), accessFlags := 26, slot := 2, constantValue := 0 }, { name := "DEFAULTCAPACITY_EMPTY_ELEMENTDATA", type := (.array (.object "java/lang/Object")), accessFlags := 26, slot := 3, constantValue := 0 }, { name := "elementData", type := (.array (.object "java/lang/Object")), accessFlags := 128, slot := 1, constantValue := 0 }, { name := "size", type := .int, accessFlags := 2, slot := 2, constantValue := 0 }]
  methods := #[k11m0, k11m1, k11m2, k11m3, k11m4, k11m5, k11m6]
  instanceTypes := #[.int, (.array (.object "java/lang/Object")), .int]
  staticTypes := #[.long, .int, (.array (.object "java/lang/Object")), (.array (.object "java/lang/Object"))]
  resolved := Array.replicate 509 none
  statics := some 0 }

def pool12 : Array CpInfo := pool [(1, .methodref 2 3), (0, .class_ 4), (0, .nameAndType 5 6), (0, u "java/lang/Object"), (0, u "<init>"), (0, u "()V"), (0, .class_ 8), (0, u "java/lang/Record")] 13

def k12c0 : Code := { maxStack := 1, maxLocals := 1, code := jdk_30_method_1_code, exceptionTable := #[], attributes := #[] }
def k12m0 : Method := { name := "<init>", desc := "()V", sig := { parameters := [], returnType := none }, accessFlags := 4, code := some k12c0 }
/-- java/lang/Record -/
def k12 : Class := { plain "java/lang/Record" (some 0) with
  accessFlags := 1057
  interfaces := #[]
  cf := some (fileOf pool12 7 #[] #[{ accessFlags := 4, nameIndex := 5, descriptorIndex := 6, attributes := #[] }] 1057 2 #[] #[])
  fields := #[]
  methods := #[k12m0]
  instanceTypes := #[]
  staticTypes := #[]
  resolved := Array.replicate 22 none
  statics := none }

def pool13 : Array CpInfo := pool [(1, .methodref 2 3), (0, .class_ 4), (0, .nameAndType 5 6), (0, u "java/lang/Record"), (0, u "<init>"), (0, u "()V"), (0, .interfaceMethodref 8 9), (0, .class_ 10), (0, .nameAndType 11 12), (0, u "java/util/List"), (0, u "copyOf"), (0, u "(Ljava/util/Collection;)Ljava/util/List;"), (0, .fieldref 14 15), (0, .class_ 16), (0, .nameAndType 17 18), (0, u "com/example/kept_inbox/keptinbox/Unread"), (0, u "conversations"), (0, u "Ljava/util/List;"), (0, .interfaceMethodref 8 20), (0, .nameAndType 21 22), (0, u "iterator"), (0, u "()Ljava/util/Iterator;"), (0, .interfaceMethodref 24 25), (0, .class_ 26), (0, .nameAndType 27 28), (0, u "java/util/Iterator"), (0, u "hasNext"), (0, u "()Z"), (0, .interfaceMethodref 24 30), (0, .nameAndType 31 32), (0, u "next"), (0, u "()Ljava/lang/Object;"), (0, .class_ 34), (0, u "com/example/kept_inbox/keptinbox/UnreadConversation"), (0, .methodref 33 36), (0, .nameAndType 37 38), (0, u "waiting"), (0, u "()J"), (14, u "(Ljava/util/List;)V"), (4, u "total")] 25

def k13c0 : Code := { maxStack := 2, maxLocals := 2, code := prog_7_method_1_code, exceptionTable := #[], attributes := #[] }
def k13m0 : Method := { name := "<init>", desc := "(Ljava/util/List;)V", sig := { parameters := [(.object "java/util/List")], returnType := none }, accessFlags := 1, code := some k13c0 }
def k13c1 : Code := { maxStack := 4, maxLocals := 5, code := prog_7_method_2_code, exceptionTable := #[], attributes := #[] }
def k13m1 : Method := { name := "total", desc := "()J", sig := { parameters := [], returnType := some .long }, accessFlags := 1, code := some k13c1 }
/-- com/example/kept_inbox/keptinbox/Unread -/
def k13 : Class := { plain "com/example/kept_inbox/keptinbox/Unread" (some 12) with
  accessFlags := 49
  interfaces := #[]
  cf := some (fileOf pool13 14 #[] #[{ accessFlags := 1, nameIndex := 5, descriptorIndex := 53, attributes := #[] }, { accessFlags := 1, nameIndex := 58, descriptorIndex := 38, attributes := #[] }] 49 2 #[] #[{ accessFlags := 18, nameIndex := 17, descriptorIndex := 18, attributes := #[] }])
  fields := #[{ name := "conversations", type := (.object "java/util/List"), accessFlags := 18, slot := 0, constantValue := 0 }]
  methods := #[k13m0, k13m1]
  instanceTypes := #[(.object "java/util/List")]
  staticTypes := #[]
  resolved := Array.replicate 84 none
  statics := none }

def pool14 : Array CpInfo := pool [(2, .class_ 4), (1, u "java/lang/Object"), (0, u "<init>"), (0, u "()V"), (3, .class_ 11), (0, u "java/util/ImmutableCollections$List12"), (0, .class_ 13), (0, u "java/util/ImmutableCollections$ListN"), (3, u "Z"), (0, .class_ 19), (0, u "java/util/List"), (0, .interfaceMethodref 21 22), (0, .class_ 23), (0, .nameAndType 24 25), (0, u "java/util/Collection"), (0, u "isEmpty"), (0, u "()Z"), (0, .interfaceMethodref 18 27), (0, .nameAndType 28 29), (0, u "of"), (0, u "()Ljava/util/List;"), (0, .interfaceMethodref 21 31), (0, .nameAndType 32 33), (0, u "toArray"), (0, u "()[Ljava/lang/Object;"), (0, .interfaceMethodref 18 35), (0, .nameAndType 28 36), (0, u "([Ljava/lang/Object;)Ljava/util/List;"), (0, .methodref 38 39), (0, .class_ 40), (0, .nameAndType 41 42), (0, u "java/util/Objects"), (0, u "requireNonNull"), (0, u "(Ljava/lang/Object;)Ljava/lang/Object;"), (0, .methodref 12 44), (0, .nameAndType 5 45), (0, u "([Ljava/lang/Object;Z)V"), (1, .class_ 49), (1, u "java/util/ImmutableCollections"), (0, u "$assertionsDisabled"), (5, u "[Ljava/lang/Object;"), (5, u "EMPTY_LIST"), (0, u "Ljava/util/ImmutableCollections$ListN;"), (8, u "EMPTY_LIST_NULLS"), (22, u "SALT32L"), (0, u "J"), (2, u "REVERSE"), (6, u "archivedObjects"), (2, u "EMPTY"), (0, u "Ljava/lang/Object;"), (0, .class_ 112), (0, u "java/util/ImmutableCollections$SetN"), (5, u "EMPTY_SET"), (0, u "Ljava/util/ImmutableCollections$SetN;"), (0, .class_ 121), (0, u "java/util/ImmutableCollections$MapN"), (3, u "EMPTY_MAP"), (0, u "Ljava/util/ImmutableCollections$MapN;"), (4, u "EXPAND_FACTOR"), (0, u "I"), (9, u "listCopy"), (0, u "(Ljava/util/Collection;)Ljava/util/List;"), (7, u "listFromArray"), (17, .class_ 170), (0, u "java/util/ImmutableCollections$MapN$MapNIterator"), (0, .class_ 172), (0, u "java/util/ImmutableCollections$MapN$1"), (0, .class_ 174), (0, u "java/util/ImmutableCollections$Map1"), (0, .class_ 176), (0, u "java/util/ImmutableCollections$AbstractImmutableMap"), (0, .class_ 178), (0, u "java/util/ImmutableCollections$SetN$SetNIterator"), (0, .class_ 180), (0, u "java/util/ImmutableCollections$Set12"), (0, .class_ 182), (0, u "java/util/ImmutableCollections$Set12$1"), (0, .class_ 184), (0, u "java/util/ImmutableCollections$AbstractImmutableSet"), (0, .class_ 186), (0, u "java/util/ImmutableCollections$SubList"), (0, .class_ 188), (0, u "java/util/ImmutableCollections$ListItr"), (0, .class_ 190), (0, u "java/util/ImmutableCollections$AbstractImmutableList"), (0, .class_ 192), (0, u "java/util/ImmutableCollections$AbstractImmutableCollection"), (0, .class_ 194), (0, u "java/util/ImmutableCollections$Access"), (0, .class_ 196), (0, u "java/util/ImmutableCollections$Access$1")] 16

def k14m0 : Method := { name := "<init>", desc := "()V", sig := { parameters := [], returnType := none }, accessFlags := 2, code := none }
def k14c1 : Code := { maxStack := 1, maxLocals := 2, code := jdk_56_method_3_code, exceptionTable := #[], attributes := #[] }
def k14m1 : Method := { name := "listCopy", desc := "(Ljava/util/Collection;)Ljava/util/List;", sig := { parameters := [(.object "java/util/Collection")], returnType := some (.object "java/util/List") }, accessFlags := 8, code := some k14c1 }
def k14c2 : Code := { maxStack := 4, maxLocals := 3, code := jdk_56_method_4_code, exceptionTable := #[], attributes := #[] }
def k14m2 : Method := { name := "listFromArray", desc := "([Ljava/lang/Object;)Ljava/util/List;", sig := { parameters := [(.array (.object "java/lang/Object"))], returnType := some (.object "java/util/List") }, accessFlags := 136, code := some k14c2 }
/-- java/util/ImmutableCollections -/
def k14 : Class := { plain "java/util/ImmutableCollections" (some 0) with
  accessFlags := 32
  interfaces := #[]
  cf := some (fileOf pool14 47 #[.nestMembers #[120, 169, 171, 173, 175, 111, 177, 179, 181, 183, 12, 10, 185, 187, 189, 191, 193, 195]] #[{ accessFlags := 2, nameIndex := 5, descriptorIndex := 6, attributes := #[] }, { accessFlags := 8, nameIndex := 142, descriptorIndex := 143, attributes := #[] }, { accessFlags := 136, nameIndex := 151, descriptorIndex := 36, attributes := #[] }] 32 2 #[] #[{ accessFlags := 26, nameIndex := 95, descriptorIndex := 96, attributes := #[] }, { accessFlags := 26, nameIndex := 99, descriptorIndex := 17, attributes := #[] }, { accessFlags := 10, nameIndex := 106, descriptorIndex := 56, attributes := #[] }, { accessFlags := 26, nameIndex := 109, descriptorIndex := 110, attributes := #[] }, { accessFlags := 24, nameIndex := 62, descriptorIndex := 63, attributes := #[] }, { accessFlags := 24, nameIndex := 72, descriptorIndex := 63, attributes := #[] }, { accessFlags := 24, nameIndex := 118, descriptorIndex := 119, attributes := #[] }, { accessFlags := 24, nameIndex := 125, descriptorIndex := 126, attributes := #[] }, { accessFlags := 24, nameIndex := 131, descriptorIndex := 132, attributes := #[] }, { accessFlags := 4120, nameIndex := 50, descriptorIndex := 17, attributes := #[] }])
  fields := #[{ name := "SALT32L", type := .long, accessFlags := 26, slot := 0, constantValue := 0 }, { name := "REVERSE", type := .boolean, accessFlags := 26, slot := 1, constantValue := 0 }, { name := "archivedObjects", type := (.array (.object "java/lang/Object")), accessFlags := 10, slot := 2, constantValue := 0 }, { name := "EMPTY", type := (.object "java/lang/Object"), accessFlags := 26, slot := 3, constantValue := 0 }, { name := "EMPTY_LIST", type := (.object "java/util/ImmutableCollections$ListN"), accessFlags := 24, slot := 4, constantValue := 0 }, { name := "EMPTY_LIST_NULLS", type := (.object "java/util/ImmutableCollections$ListN"), accessFlags := 24, slot := 5, constantValue := 0 }, { name := "EMPTY_SET", type := (.object "java/util/ImmutableCollections$SetN"), accessFlags := 24, slot := 6, constantValue := 0 }, { name := "EMPTY_MAP", type := (.object "java/util/ImmutableCollections$MapN"), accessFlags := 24, slot := 7, constantValue := 0 }, { name := "EXPAND_FACTOR", type := .int, accessFlags := 24, slot := 8, constantValue := 0 }, { name := "$assertionsDisabled", type := .boolean, accessFlags := 4120, slot := 9, constantValue := 0 }]
  methods := #[k14m0, k14m1, k14m2]
  instanceTypes := #[]
  staticTypes := #[.long, .boolean, (.array (.object "java/lang/Object")), (.object "java/lang/Object"), (.object "java/util/ImmutableCollections$ListN"), (.object "java/util/ImmutableCollections$ListN"), (.object "java/util/ImmutableCollections$SetN"), (.object "java/util/ImmutableCollections$MapN"), .int, .boolean]
  resolved := Array.replicate 213 none
  statics := some 1 }

def pool15 : Array CpInfo := pool [(1, .methodref 2 3), (0, .class_ 4), (0, .nameAndType 5 6), (0, u "java/util/AbstractCollection"), (0, u "<init>"), (0, u "()V"), (1, .class_ 10), (1, u "java/util/ImmutableCollections"), (2, .class_ 14), (0, u "java/util/ImmutableCollections$AbstractImmutableCollection")] 41

def k15c0 : Code := { maxStack := 1, maxLocals := 1, code := jdk_47_method_1_code, exceptionTable := #[], attributes := #[] }
def k15m0 : Method := { name := "<init>", desc := "()V", sig := { parameters := [], returnType := none }, accessFlags := 0, code := some k15c0 }
/-- java/util/ImmutableCollections$AbstractImmutableCollection -/
def k15 : Class := { plain "java/util/ImmutableCollections$AbstractImmutableCollection" (some 4) with
  accessFlags := 1056
  interfaces := #[]
  cf := some (fileOf pool15 13 #[.nestHost 8] #[{ accessFlags := 0, nameIndex := 5, descriptorIndex := 6, attributes := #[] }] 1056 2 #[] #[])
  fields := #[]
  methods := #[k15m0]
  instanceTypes := #[]
  staticTypes := #[]
  resolved := Array.replicate 56 none
  statics := none }

def pool16 : Array CpInfo := pool [(1, .methodref 2 3), (0, .class_ 4), (0, .nameAndType 5 6), (0, u "java/util/ImmutableCollections$AbstractImmutableCollection"), (0, u "<init>"), (0, u "()V"), (1, .class_ 10), (1, u "java/util/ImmutableCollections"), (2, .methodref 14 15), (0, .class_ 16), (0, .nameAndType 17 18), (0, u "java/util/ImmutableCollections$AbstractImmutableList"), (0, u "size"), (0, u "()I"), (42, .class_ 62), (0, u "java/util/ImmutableCollections$ListItr"), (0, .methodref 61 64), (0, .nameAndType 5 65), (0, u "(Ljava/util/List;I)V"), (11, .class_ 78), (0, u "java/util/List"), (2, u "iterator"), (0, u "()Ljava/util/Iterator;"), (41, .class_ 125), (0, u "java/util/RandomAccess")] 70

def k16c0 : Code := { maxStack := 1, maxLocals := 1, code := jdk_46_method_1_code, exceptionTable := #[], attributes := #[] }
def k16m0 : Method := { name := "<init>", desc := "()V", sig := { parameters := [], returnType := none }, accessFlags := 0, code := some k16c0 }
def k16c1 : Code := { maxStack := 4, maxLocals := 1, code := jdk_46_method_10_code, exceptionTable := #[], attributes := #[] }
def k16m1 : Method := { name := "iterator", desc := "()Ljava/util/Iterator;", sig := { parameters := [], returnType := some (.object "java/util/Iterator") }, accessFlags := 1, code := some k16c1 }
/-- java/util/ImmutableCollections$AbstractImmutableList -/
def k16 : Class := { plain "java/util/ImmutableCollections$AbstractImmutableList" (some 15) with
  accessFlags := 1056
  interfaces := #[6, 8]
  cf := some (fileOf pool16 14 #[.nestHost 8] #[{ accessFlags := 0, nameIndex := 5, descriptorIndex := 6, attributes := #[] }, { accessFlags := 1, nameIndex := 81, descriptorIndex := 82, attributes := #[] }] 1056 2 #[77, 124] #[])
  fields := #[]
  methods := #[k16m0, k16m1]
  instanceTypes := #[]
  staticTypes := #[]
  resolved := Array.replicate 196 none
  statics := none }

def pool17 : Array CpInfo := pool [(1, .methodref 2 3), (0, .class_ 4), (0, .nameAndType 5 6), (0, u "java/util/ImmutableCollections$AbstractImmutableList"), (0, u "<init>"), (0, u "()V"), (0, .methodref 8 9), (0, .class_ 10), (0, .nameAndType 11 12), (0, u "java/util/Objects"), (0, u "requireNonNull"), (0, u "(Ljava/lang/Object;)Ljava/lang/Object;"), (0, .fieldref 14 15), (0, .class_ 16), (0, .nameAndType 17 18), (0, u "java/util/ImmutableCollections$List12"), (0, u "e0"), (0, u "Ljava/lang/Object;"), (0, .fieldref 20 21), (0, .class_ 22), (0, .nameAndType 23 18), (0, u "java/util/ImmutableCollections"), (0, u "EMPTY"), (0, .fieldref 14 25), (0, .nameAndType 26 18), (0, u "e1"), (24, u "size"), (0, u "()I"), (17, .class_ 71), (0, u "java/io/Serializable"), (4, u "(Ljava/lang/Object;)V"), (8, u "(Ljava/lang/Object;Ljava/lang/Object;)V"), (4, u "get"), (0, u "(I)Ljava/lang/Object;")] 33

def k17c0 : Code := { maxStack := 2, maxLocals := 2, code := jdk_44_method_1_code, exceptionTable := #[], attributes := #[] }
def k17m0 : Method := { name := "<init>", desc := "(Ljava/lang/Object;)V", sig := { parameters := [(.object "java/lang/Object")], returnType := none }, accessFlags := 0, code := some k17c0 }
def k17c1 : Code := { maxStack := 2, maxLocals := 3, code := jdk_44_method_2_code, exceptionTable := #[], attributes := #[] }
def k17m1 : Method := { name := "<init>", desc := "(Ljava/lang/Object;Ljava/lang/Object;)V", sig := { parameters := [(.object "java/lang/Object"), (.object "java/lang/Object")], returnType := none }, accessFlags := 0, code := some k17c1 }
def k17c2 : Code := { maxStack := 2, maxLocals := 1, code := jdk_44_method_3_code, exceptionTable := #[], attributes := #[] }
def k17m2 : Method := { name := "size", desc := "()I", sig := { parameters := [], returnType := some .int }, accessFlags := 1, code := some k17c2 }
def k17c3 : Code := { maxStack := 2, maxLocals := 2, code := jdk_44_method_5_code, exceptionTable := #[], attributes := #[] }
def k17m3 : Method := { name := "get", desc := "(I)Ljava/lang/Object;", sig := { parameters := [.int], returnType := some (.object "java/lang/Object") }, accessFlags := 1, code := some k17c3 }
/-- java/util/ImmutableCollections$List12 -/
def k17 : Class := { plain "java/util/ImmutableCollections$List12" (some 16) with
  accessFlags := 48
  interfaces := #[10]
  cf := some (fileOf pool17 14 #[.nestHost 20] #[{ accessFlags := 0, nameIndex := 5, descriptorIndex := 76, attributes := #[] }, { accessFlags := 0, nameIndex := 5, descriptorIndex := 85, attributes := #[] }, { accessFlags := 1, nameIndex := 51, descriptorIndex := 52, attributes := #[] }, { accessFlags := 1, nameIndex := 90, descriptorIndex := 91, attributes := #[] }] 48 2 #[70] #[{ accessFlags := 18, nameIndex := 17, descriptorIndex := 18, attributes := #[] }, { accessFlags := 18, nameIndex := 26, descriptorIndex := 18, attributes := #[] }])
  fields := #[{ name := "e0", type := (.object "java/lang/Object"), accessFlags := 18, slot := 0, constantValue := 0 }, { name := "e1", type := (.object "java/lang/Object"), accessFlags := 18, slot := 1, constantValue := 0 }]
  methods := #[k17m0, k17m1, k17m2, k17m3]
  instanceTypes := #[(.object "java/lang/Object"), (.object "java/lang/Object")]
  staticTypes := #[]
  resolved := Array.replicate 125 none
  statics := none }

def pool18 : Array CpInfo := pool [(1, .methodref 2 3), (0, .class_ 4), (0, .nameAndType 5 6), (0, u "java/util/ImmutableCollections$AbstractImmutableList"), (0, u "<init>"), (0, u "()V"), (0, .fieldref 8 9), (0, .class_ 10), (0, .nameAndType 11 12), (0, u "java/util/ImmutableCollections$ListN"), (0, u "elements"), (0, u "[Ljava/lang/Object;"), (0, .fieldref 8 14), (0, .nameAndType 15 16), (0, u "allowNulls"), (0, u "Z"), (42, .class_ 60), (0, u "java/io/Serializable"), (4, u "([Ljava/lang/Object;Z)V"), (11, u "size"), (0, u "()I"), (0, u "get"), (0, u "(I)Ljava/lang/Object;"), (33, .class_ 115), (0, u "java/util/ImmutableCollections")] 3

def k18c0 : Code := { maxStack := 2, maxLocals := 3, code := jdk_45_method_1_code, exceptionTable := #[], attributes := #[] }
def k18m0 : Method := { name := "<init>", desc := "([Ljava/lang/Object;Z)V", sig := { parameters := [(.array (.object "java/lang/Object")), .boolean], returnType := none }, accessFlags := 2, code := some k18c0 }
def k18c1 : Code := { maxStack := 1, maxLocals := 1, code := jdk_45_method_3_code, exceptionTable := #[], attributes := #[] }
def k18m1 : Method := { name := "size", desc := "()I", sig := { parameters := [], returnType := some .int }, accessFlags := 1, code := some k18c1 }
def k18c2 : Code := { maxStack := 2, maxLocals := 2, code := jdk_45_method_4_code, exceptionTable := #[], attributes := #[] }
def k18m2 : Method := { name := "get", desc := "(I)Ljava/lang/Object;", sig := { parameters := [.int], returnType := some (.object "java/lang/Object") }, accessFlags := 1, code := some k18c2 }
/-- java/util/ImmutableCollections$ListN -/
def k18 : Class := { plain "java/util/ImmutableCollections$ListN" (some 16) with
  accessFlags := 48
  interfaces := #[10]
  cf := some (fileOf pool18 8 #[.nestHost 114] #[{ accessFlags := 2, nameIndex := 5, descriptorIndex := 65, attributes := #[] }, { accessFlags := 1, nameIndex := 77, descriptorIndex := 78, attributes := #[] }, { accessFlags := 1, nameIndex := 79, descriptorIndex := 80, attributes := #[] }] 48 2 #[59] #[{ accessFlags := 18, nameIndex := 11, descriptorIndex := 12, attributes := #[] }, { accessFlags := 18, nameIndex := 15, descriptorIndex := 16, attributes := #[] }])
  fields := #[{ name := "elements", type := (.array (.object "java/lang/Object")), accessFlags := 18, slot := 0, constantValue := 0 }, { name := "allowNulls", type := .boolean, accessFlags := 18, slot := 1, constantValue := 0 }]
  methods := #[k18m0, k18m1, k18m2]
  instanceTypes := #[(.array (.object "java/lang/Object")), .boolean]
  staticTypes := #[]
  resolved := Array.replicate 119 none
  statics := none }

def pool19 : Array CpInfo := pool [(16, .class_ 18), (1, u "java/util/Iterator"), (0, u "hasNext"), (0, u "()Z"), (2, u "next"), (0, u "()Ljava/lang/Object;"), (6, .class_ 32), (0, u "java/lang/Object")] 20

def k19m0 : Method := { name := "hasNext", desc := "()Z", sig := { parameters := [], returnType := some .boolean }, accessFlags := 1025, code := none }
def k19m1 : Method := { name := "next", desc := "()Ljava/lang/Object;", sig := { parameters := [], returnType := some (.object "java/lang/Object") }, accessFlags := 1025, code := none }
/-- java/util/Iterator -/
def k19 : Class := { plain "java/util/Iterator" (some 0) with
  accessFlags := 1537
  interfaces := #[]
  cf := some (fileOf pool19 16 #[] #[{ accessFlags := 1025, nameIndex := 19, descriptorIndex := 20, attributes := #[] }, { accessFlags := 1025, nameIndex := 23, descriptorIndex := 24, attributes := #[] }] 1537 31 #[] #[])
  fields := #[]
  methods := #[k19m0, k19m1]
  instanceTypes := #[]
  staticTypes := #[]
  resolved := Array.replicate 53 none
  statics := none }

def pool20 : Array CpInfo := pool [(1, .class_ 2), (0, u "java/util/ListIterator"), (0, .class_ 4), (0, u "java/lang/Object"), (0, .class_ 6), (0, u "java/util/Iterator")] 20

/-- java/util/ListIterator -/
def k20 : Class := { plain "java/util/ListIterator" (some 0) with
  accessFlags := 1537
  interfaces := #[19]
  cf := some (fileOf pool20 1 #[] #[] 1537 3 #[5] #[])
  fields := #[]
  methods := #[]
  instanceTypes := #[]
  staticTypes := #[]
  resolved := Array.replicate 27 none
  statics := none }

def pool21 : Array CpInfo := pool [(1, .methodref 2 3), (0, .class_ 4), (0, .nameAndType 5 6), (0, u "java/lang/Object"), (0, u "<init>"), (0, u "()V"), (0, .fieldref 8 9), (0, .class_ 10), (0, .nameAndType 11 12), (0, u "java/util/ImmutableCollections$ListItr"), (0, u "list"), (0, u "Ljava/util/List;"), (0, .fieldref 8 14), (0, .nameAndType 15 16), (0, u "size"), (0, u "I"), (0, .fieldref 8 18), (0, .nameAndType 19 16), (0, u "cursor"), (0, .fieldref 8 21), (0, .nameAndType 22 23), (0, u "isListIterator"), (0, u "Z"), (0, .interfaceMethodref 25 26), (0, .class_ 27), (0, .nameAndType 28 29), (0, u "java/util/List"), (0, u "get"), (0, u "(I)Ljava/lang/Object;"), (6, .class_ 38), (1, u "java/util/ImmutableCollections"), (2, .class_ 42), (0, u "java/util/ListIterator"), (4, u "(Ljava/util/List;I)V"), (11, u "hasNext"), (0, u "()Z"), (1, u "next"), (0, u "()Ljava/lang/Object;")] 22

def k21c0 : Code := { maxStack := 2, maxLocals := 3, code := jdk_53_method_1_code, exceptionTable := #[], attributes := #[] }
def k21m0 : Method := { name := "<init>", desc := "(Ljava/util/List;I)V", sig := { parameters := [(.object "java/util/List"), .int], returnType := none }, accessFlags := 0, code := some k21c0 }
def k21c1 : Code := { maxStack := 2, maxLocals := 1, code := jdk_53_method_3_code, exceptionTable := #[], attributes := #[] }
def k21m1 : Method := { name := "hasNext", desc := "()Z", sig := { parameters := [], returnType := some .boolean }, accessFlags := 1, code := some k21c1 }
def k21c2 : Code := { maxStack := 3, maxLocals := 3, code := jdk_53_method_4_code, exceptionTable := #[{ startPc := 0, endPc := 24, handlerPc := 25, catchType := 30 }], attributes := #[] }
def k21m2 : Method := { name := "next", desc := "()Ljava/lang/Object;", sig := { parameters := [], returnType := some (.object "java/lang/Object") }, accessFlags := 1, code := some k21c2 }
/-- java/util/ImmutableCollections$ListItr -/
def k21 : Class := { plain "java/util/ImmutableCollections$ListItr" (some 0) with
  accessFlags := 48
  interfaces := #[20]
  cf := some (fileOf pool21 8 #[.nestHost 36] #[{ accessFlags := 0, nameIndex := 5, descriptorIndex := 47, attributes := #[] }, { accessFlags := 1, nameIndex := 59, descriptorIndex := 60, attributes := #[] }, { accessFlags := 1, nameIndex := 62, descriptorIndex := 63, attributes := #[] }] 48 2 #[41] #[{ accessFlags := 18, nameIndex := 11, descriptorIndex := 12, attributes := #[] }, { accessFlags := 18, nameIndex := 15, descriptorIndex := 16, attributes := #[] }, { accessFlags := 18, nameIndex := 22, descriptorIndex := 23, attributes := #[] }, { accessFlags := 2, nameIndex := 19, descriptorIndex := 16, attributes := #[] }])
  fields := #[{ name := "list", type := (.object "java/util/List"), accessFlags := 18, slot := 0, constantValue := 0 }, { name := "size", type := .int, accessFlags := 18, slot := 1, constantValue := 0 }, { name := "isListIterator", type := .boolean, accessFlags := 18, slot := 2, constantValue := 0 }, { name := "cursor", type := .int, accessFlags := 2, slot := 3, constantValue := 0 }]
  methods := #[k21m0, k21m1, k21m2]
  instanceTypes := #[(.object "java/util/List"), .int, .boolean, .int]
  staticTypes := #[]
  resolved := Array.replicate 86 none
  statics := none }

def pool22 : Array CpInfo := pool [(1, .methodref 2 3), (0, .class_ 4), (0, .nameAndType 5 6), (0, u "java/lang/Record"), (0, u "<init>"), (0, u "()V"), (0, .fieldref 8 9), (0, .class_ 10), (0, .nameAndType 11 12), (0, u "com/example/kept_inbox/keptinbox/UnreadConversation"), (0, u "id"), (0, u "Ljava/lang/String;"), (0, .fieldref 8 14), (0, .nameAndType 15 16), (0, u "waiting"), (0, u "J"), (0, .fieldref 8 18), (0, .nameAndType 19 12), (0, u "newestTitle"), (12, u "(Ljava/lang/String;JLjava/lang/String;)V"), (6, u "()J")] 22

def k22c0 : Code := { maxStack := 3, maxLocals := 5, code := prog_8_method_1_code, exceptionTable := #[], attributes := #[] }
def k22m0 : Method := { name := "<init>", desc := "(Ljava/lang/String;JLjava/lang/String;)V", sig := { parameters := [(.object "java/lang/String"), .long, (.object "java/lang/String")], returnType := none }, accessFlags := 1, code := some k22c0 }
def k22c1 : Code := { maxStack := 2, maxLocals := 1, code := prog_8_method_6_code, exceptionTable := #[], attributes := #[] }
def k22m1 : Method := { name := "waiting", desc := "()J", sig := { parameters := [], returnType := some .long }, accessFlags := 1, code := some k22c1 }
/-- com/example/kept_inbox/keptinbox/UnreadConversation -/
def k22 : Class := { plain "com/example/kept_inbox/keptinbox/UnreadConversation" (some 12) with
  accessFlags := 49
  interfaces := #[]
  cf := some (fileOf pool22 8 #[] #[{ accessFlags := 1, nameIndex := 5, descriptorIndex := 32, attributes := #[] }, { accessFlags := 1, nameIndex := 15, descriptorIndex := 39, attributes := #[] }] 49 2 #[] #[{ accessFlags := 18, nameIndex := 11, descriptorIndex := 12, attributes := #[] }, { accessFlags := 18, nameIndex := 15, descriptorIndex := 16, attributes := #[] }, { accessFlags := 18, nameIndex := 19, descriptorIndex := 12, attributes := #[] }])
  fields := #[{ name := "id", type := (.object "java/lang/String"), accessFlags := 18, slot := 0, constantValue := 0 }, { name := "waiting", type := .long, accessFlags := 18, slot := 1, constantValue := 0 }, { name := "newestTitle", type := (.object "java/lang/String"), accessFlags := 18, slot := 2, constantValue := 0 }]
  methods := #[k22m0, k22m1]
  instanceTypes := #[(.object "java/lang/String"), .long, (.object "java/lang/String")]
  staticTypes := #[]
  resolved := Array.replicate 62 none
  statics := none }

def pool23 : Array CpInfo := pool [(1, .class_ 2), (0, u "java/lang/Comparable"), (0, .class_ 4), (0, u "java/lang/Object")] 7

/-- java/lang/Comparable -/
def k23 : Class := { plain "java/lang/Comparable" (some 0) with
  accessFlags := 1537
  interfaces := #[]
  cf := some (fileOf pool23 1 #[] #[] 1537 3 #[] #[])
  fields := #[]
  methods := #[]
  instanceTypes := #[]
  staticTypes := #[]
  resolved := Array.replicate 12 none
  statics := none }

def pool24 : Array CpInfo := pool [(2, .class_ 4), (1, u "java/lang/CharSequence"), (42, .class_ 48), (0, u "java/lang/CharSequence$1CodePointIterator"), (10, .class_ 60), (0, u "java/lang/CharSequence$1CharIterator"), (5, .class_ 67), (0, u "java/lang/Object")] 63

/-- java/lang/CharSequence -/
def k24 : Class := { plain "java/lang/CharSequence" (some 0) with
  accessFlags := 1537
  interfaces := #[]
  cf := some (fileOf pool24 2 #[.nestMembers #[47, 59]] #[] 1537 66 #[] #[])
  fields := #[]
  methods := #[]
  instanceTypes := #[]
  staticTypes := #[]
  resolved := Array.replicate 131 none
  statics := none }

def pool25 : Array CpInfo := pool [(1, .class_ 2), (0, u "java/lang/constant/Constable"), (0, .class_ 4), (0, u "java/lang/Object")] 6

/-- java/lang/constant/Constable -/
def k25 : Class := { plain "java/lang/constant/Constable" (some 0) with
  accessFlags := 1537
  interfaces := #[]
  cf := some (fileOf pool25 1 #[] #[] 1537 3 #[] #[])
  fields := #[]
  methods := #[]
  instanceTypes := #[]
  staticTypes := #[]
  resolved := Array.replicate 11 none
  statics := none }

def pool26 : Array CpInfo := pool [(1, .class_ 2), (0, u "java/lang/constant/ConstantDesc"), (0, .class_ 4), (0, u "java/lang/Object")] 32

/-- java/lang/constant/ConstantDesc -/
def k26 : Class := { plain "java/lang/constant/ConstantDesc" (some 0) with
  accessFlags := 1537
  interfaces := #[]
  cf := some (fileOf pool26 1 #[] #[] 1537 3 #[] #[])
  fields := #[]
  methods := #[]
  instanceTypes := #[]
  staticTypes := #[]
  resolved := Array.replicate 37 none
  statics := none }

def pool27 : Array CpInfo := pool [(2, .class_ 4), (1, u "java/lang/Object"), (0, u "<init>"), (0, u "()V"), (3, .class_ 12), (1, u "java/lang/String"), (0, u "value"), (0, u "[B"), (2, u "coder"), (0, u "B"), (2, u "hash"), (0, u "I"), (2, u "hashIsZero"), (0, u "Z"), (13, u "COMPACT_STRINGS"), (534, .class_ 576), (0, u "java/lang/CharSequence"), (22, u "CASE_INSENSITIVE_ORDER"), (0, u "Ljava/util/Comparator;"), (500, u "serialPersistentFields"), (0, u "[Ljava/io/ObjectStreamField;"), (0, .class_ 1104), (0, u "java/lang/String$CaseInsensitiveComparator"), (1, .class_ 1107), (0, u "java/io/Serializable"), (0, .class_ 1109), (0, u "java/lang/Comparable"), (0, .class_ 1111), (0, u "java/lang/constant/Constable"), (0, .class_ 1113), (0, u "java/lang/constant/ConstantDesc"), (2, u "serialVersionUID"), (0, u "J"), (3, u "REPL"), (0, u "C"), (2, u "LATIN1"), (1, u "UTF16")] 323

def k27m0 : Method := { name := "<init>", desc := "()V", sig := { parameters := [], returnType := none }, accessFlags := 1, code := none }
/-- java/lang/String -/
def k27 : Class := { plain "java/lang/String" (some 0) with
  accessFlags := 49
  interfaces := #[10, 23, 24, 25, 26]
  cf := some (fileOf pool27 10 #[.nestMembers #[1103]] #[{ accessFlags := 1, nameIndex := 5, descriptorIndex := 6, attributes := #[] }] 49 2 #[1106, 1108, 575, 1110, 1112] #[{ accessFlags := 18, nameIndex := 13, descriptorIndex := 14, attributes := #[] }, { accessFlags := 18, nameIndex := 17, descriptorIndex := 18, attributes := #[] }, { accessFlags := 2, nameIndex := 21, descriptorIndex := 22, attributes := #[] }, { accessFlags := 2, nameIndex := 25, descriptorIndex := 26, attributes := #[] }, { accessFlags := 26, nameIndex := 1116, descriptorIndex := 1117, attributes := #[] }, { accessFlags := 24, nameIndex := 40, descriptorIndex := 26, attributes := #[] }, { accessFlags := 26, nameIndex := 1101, descriptorIndex := 1102, attributes := #[] }, { accessFlags := 26, nameIndex := 1121, descriptorIndex := 1122, attributes := #[] }, { accessFlags := 25, nameIndex := 599, descriptorIndex := 600, attributes := #[] }, { accessFlags := 24, nameIndex := 1125, descriptorIndex := 18, attributes := #[] }, { accessFlags := 24, nameIndex := 1127, descriptorIndex := 18, attributes := #[] }])
  fields := #[{ name := "value", type := (.array .byte), accessFlags := 18, slot := 0, constantValue := 0 }, { name := "coder", type := .byte, accessFlags := 18, slot := 1, constantValue := 0 }, { name := "hash", type := .int, accessFlags := 2, slot := 2, constantValue := 0 }, { name := "hashIsZero", type := .boolean, accessFlags := 2, slot := 3, constantValue := 0 }, { name := "serialVersionUID", type := .long, accessFlags := 26, slot := 0, constantValue := 0 }, { name := "COMPACT_STRINGS", type := .boolean, accessFlags := 24, slot := 1, constantValue := 0 }, { name := "serialPersistentFields", type := (.array (.object "java/io/ObjectStreamField")), accessFlags := 26, slot := 2, constantValue := 0 }, { name := "REPL", type := .char, accessFlags := 26, slot := 3, constantValue := 0 }, { name := "CASE_INSENSITIVE_ORDER", type := (.object "java/util/Comparator"), accessFlags := 25, slot := 4, constantValue := 0 }, { name := "LATIN1", type := .byte, accessFlags := 24, slot := 5, constantValue := 0 }, { name := "UTF16", type := .byte, accessFlags := 24, slot := 6, constantValue := 0 }]
  methods := #[k27m0]
  instanceTypes := #[(.array .byte), .byte, .int, .boolean]
  staticTypes := #[.long, .boolean, (.array (.object "java/io/ObjectStreamField")), .char, (.object "java/util/Comparator"), .byte, .byte]
  resolved := Array.replicate 1451 none
  statics := none }

def pool28 : Array CpInfo := pool [(1, .class_ 2), (0, u "java/lang/Math"), (1, .class_ 6), (1, u "java/lang/Object"), (0, u "<init>"), (0, u "()V"), (89, .class_ 100), (1, u "java/lang/Math$RandomNumberGeneratorHolder"), (71, u "negativeZeroFloatBits"), (0, u "J"), (2, u "negativeZeroDoubleBits"), (21, u "max"), (2, u "min"), (43, u "$assertionsDisabled"), (0, u "Z"), (88, u "(II)I"), (2, u "twoToTheDoubleScaleDown"), (0, u "D"), (4, u "twoToTheDoubleScaleUp"), (9, u "E"), (3, u "PI"), (2, u "TAU"), (2, u "DEGREES_TO_RADIANS"), (0, u "RADIANS_TO_DEGREES")] 94

def k28m0 : Method := { name := "<init>", desc := "()V", sig := { parameters := [], returnType := none }, accessFlags := 2, code := none }
def k28c1 : Code := { maxStack := 2, maxLocals := 2, code := jdk_29_method_65_code, exceptionTable := #[], attributes := #[] }
def k28m1 : Method := { name := "max", desc := "(II)I", sig := { parameters := [.int, .int], returnType := some .int }, accessFlags := 9, code := some k28c1 }
def k28c2 : Code := { maxStack := 2, maxLocals := 2, code := jdk_29_method_69_code, exceptionTable := #[], attributes := #[] }
def k28m2 : Method := { name := "min", desc := "(II)I", sig := { parameters := [.int, .int], returnType := some .int }, accessFlags := 9, code := some k28c2 }
/-- java/lang/Math -/
def k28 : Class := { plain "java/lang/Math" (some 0) with
  accessFlags := 49
  interfaces := #[]
  cf := some (fileOf pool28 1 #[.nestMembers #[98]] #[{ accessFlags := 2, nameIndex := 7, descriptorIndex := 8, attributes := #[] }, { accessFlags := 9, nameIndex := 198, descriptorIndex := 335, attributes := #[] }, { accessFlags := 9, nameIndex := 201, descriptorIndex := 335, attributes := #[] }] 49 4 #[] #[{ accessFlags := 25, nameIndex := 354, descriptorIndex := 339, attributes := #[] }, { accessFlags := 25, nameIndex := 358, descriptorIndex := 339, attributes := #[] }, { accessFlags := 25, nameIndex := 361, descriptorIndex := 339, attributes := #[] }, { accessFlags := 26, nameIndex := 364, descriptorIndex := 339, attributes := #[] }, { accessFlags := 26, nameIndex := 365, descriptorIndex := 339, attributes := #[] }, { accessFlags := 26, nameIndex := 172, descriptorIndex := 173, attributes := #[] }, { accessFlags := 26, nameIndex := 176, descriptorIndex := 173, attributes := #[] }, { accessFlags := 8, nameIndex := 344, descriptorIndex := 339, attributes := #[] }, { accessFlags := 8, nameIndex := 338, descriptorIndex := 339, attributes := #[] }, { accessFlags := 4120, nameIndex := 245, descriptorIndex := 246, attributes := #[] }])
  fields := #[{ name := "E", type := .double, accessFlags := 25, slot := 0, constantValue := 0 }, { name := "PI", type := .double, accessFlags := 25, slot := 1, constantValue := 0 }, { name := "TAU", type := .double, accessFlags := 25, slot := 2, constantValue := 0 }, { name := "DEGREES_TO_RADIANS", type := .double, accessFlags := 26, slot := 3, constantValue := 0 }, { name := "RADIANS_TO_DEGREES", type := .double, accessFlags := 26, slot := 4, constantValue := 0 }, { name := "negativeZeroFloatBits", type := .long, accessFlags := 26, slot := 5, constantValue := 0 }, { name := "negativeZeroDoubleBits", type := .long, accessFlags := 26, slot := 6, constantValue := 0 }, { name := "twoToTheDoubleScaleUp", type := .double, accessFlags := 8, slot := 7, constantValue := 0 }, { name := "twoToTheDoubleScaleDown", type := .double, accessFlags := 8, slot := 8, constantValue := 0 }, { name := "$assertionsDisabled", type := .boolean, accessFlags := 4120, slot := 9, constantValue := 0 }]
  methods := #[k28m0, k28m1, k28m2]
  instanceTypes := #[]
  staticTypes := #[.double, .double, .double, .double, .double, .long, .long, .double, .double, .boolean]
  resolved := Array.replicate 460 none
  statics := none }

def pool29 : Array CpInfo := pool [(2, .class_ 4), (1, u "java/lang/Object"), (0, u "<init>"), (0, u "()V"), (7, .class_ 16), (1, u "java/util/Arrays"), (57, .class_ 76), (1, u "java/util/Arrays$NaturalOrder"), (9, .methodref 2 87), (0, .nameAndType 88 89), (0, u "getClass"), (0, u "()Ljava/lang/Class;"), (20, .class_ 111), (0, u "[Ljava/lang/Object;"), (1, .class_ 115), (1, u "java/util/Arrays$LegacyMergeSort"), (1, u "Z"), (32, .methodref 151 152), (0, .class_ 153), (0, .nameAndType 154 155), (0, u "java/lang/System"), (0, u "arraycopy"), (0, u "(Ljava/lang/Object;ILjava/lang/Object;II)V"), (144, .methodref 14 301), (0, .nameAndType 302 303), (0, u "copyOf"), (0, u "([Ljava/lang/Object;ILjava/lang/Class;)[Ljava/lang/Object;"), (0, .methodref 305 306), (0, .class_ 307), (0, .nameAndType 308 309), (0, u "java/lang/Math"), (0, u "min"), (0, u "(II)I"), (65, .class_ 376), (0, u "java/util/Arrays$ArrayList"), (68, u "$assertionsDisabled"), (269, u "MIN_ARRAY_SORT_GRAN"), (0, u "I"), (2, u "INSERTIONSORT_THRESHOLD"), (140, u "([Ljava/lang/Object;I)[Ljava/lang/Object;"), (114, .class_ 976), (0, u "java/util/Arrays$ArrayItr")] 52

def k29m0 : Method := { name := "<init>", desc := "()V", sig := { parameters := [], returnType := none }, accessFlags := 2, code := none }
def k29c1 : Code := { maxStack := 3, maxLocals := 2, code := jdk_65_method_119_code, exceptionTable := #[], attributes := #[] }
def k29m1 : Method := { name := "copyOf", desc := "([Ljava/lang/Object;I)[Ljava/lang/Object;", sig := { parameters := [(.array (.object "java/lang/Object")), .int], returnType := some (.array (.object "java/lang/Object")) }, accessFlags := 9, code := some k29c1 }
def k29c2 : Code := { maxStack := 6, maxLocals := 4, code := jdk_65_method_120_code, exceptionTable := #[], attributes := #[] }
def k29m2 : Method := { name := "copyOf", desc := "([Ljava/lang/Object;ILjava/lang/Class;)[Ljava/lang/Object;", sig := { parameters := [(.array (.object "java/lang/Object")), .int, (.object "java/lang/Class")], returnType := some (.array (.object "java/lang/Object")) }, accessFlags := 9, code := some k29c2 }
/-- java/util/Arrays -/
def k29 : Class := { plain "java/util/Arrays" (some 0) with
  accessFlags := 49
  interfaces := #[]
  cf := some (fileOf pool29 14 #[.nestMembers #[975, 375, 113, 74]] #[{ accessFlags := 2, nameIndex := 5, descriptorIndex := 6, attributes := #[] }, { accessFlags := 9, nameIndex := 302, descriptorIndex := 860, attributes := #[] }, { accessFlags := 9, nameIndex := 302, descriptorIndex := 303, attributes := #[] }] 49 2 #[] #[{ accessFlags := 26, nameIndex := 715, descriptorIndex := 716, attributes := #[] }, { accessFlags := 26, nameIndex := 719, descriptorIndex := 716, attributes := #[] }, { accessFlags := 4120, nameIndex := 445, descriptorIndex := 117, attributes := #[] }])
  fields := #[{ name := "MIN_ARRAY_SORT_GRAN", type := .int, accessFlags := 26, slot := 0, constantValue := 0 }, { name := "INSERTIONSORT_THRESHOLD", type := .int, accessFlags := 26, slot := 1, constantValue := 0 }, { name := "$assertionsDisabled", type := .boolean, accessFlags := 4120, slot := 2, constantValue := 0 }]
  methods := #[k29m0, k29m1, k29m2]
  instanceTypes := #[]
  staticTypes := #[.int, .int, .boolean]
  resolved := Array.replicate 1029 none
  statics := none }

def pool30 : Array CpInfo := pool [(2, .class_ 4), (1, u "java/lang/Object"), (0, u "<init>"), (0, u "()V"), (1, .class_ 10), (1, u "java/lang/System"), (0, u "allowSecurityManager"), (0, u "I"), (16, u "cons"), (0, u "Ljava/io/Console;"), (77, .class_ 110), (1, u "java/lang/System$CallersHolder"), (43, u "initialErrStream"), (0, u "Ljava/io/PrintStream;"), (19, u "security"), (0, u "Ljava/lang/SecurityManager;"), (31, .class_ 209), (0, u "java/lang/System$1"), (7, u "props"), (0, u "Ljava/util/Properties;"), (2, u "lineSeparator"), (0, u "Ljava/lang/String;"), (96, .class_ 321), (1, u "java/lang/System$LoggerFinder"), (5, .class_ 328), (0, u "java/lang/System$Logger"), (67, u "err"), (2, u "out"), (91, u "notSupportedJnuEncoding"), (15, u "in"), (17, u "initialIn"), (0, u "Ljava/io/InputStream;"), (35, u "bootLayer"), (0, u "Ljava/lang/ModuleLayer;"), (99, .class_ 664), (0, u "java/lang/System$2"), (9, u "NEVER"), (2, u "MAYBE"), (49, u "arraycopy"), (0, u "(Ljava/lang/Object;ILjava/lang/Object;II)V"), (72, .class_ 802), (0, u "java/lang/System$Logger$Level")] 31

def k30m0 : Method := { name := "<init>", desc := "()V", sig := { parameters := [], returnType := none }, accessFlags := 2, code := none }
def k30m1 : Method := { name := "arraycopy", desc := "(Ljava/lang/Object;ILjava/lang/Object;II)V", sig := { parameters := [(.object "java/lang/Object"), .int, (.object "java/lang/Object"), .int, .int], returnType := none }, accessFlags := 265, code := none }
/-- java/lang/System -/
def k30 : Class := { plain "java/lang/System" (some 0) with
  accessFlags := 49
  interfaces := #[]
  cf := some (fileOf pool30 8 #[.nestMembers #[319, 327, 801, 108, 663, 208]] #[{ accessFlags := 2, nameIndex := 5, descriptorIndex := 6, attributes := #[] }, { accessFlags := 265, nameIndex := 727, descriptorIndex := 728, attributes := #[] }] 49 2 #[] #[{ accessFlags := 25, nameIndex := 507, descriptorIndex := 526, attributes := #[] }, { accessFlags := 25, nameIndex := 399, descriptorIndex := 155, attributes := #[] }, { accessFlags := 25, nameIndex := 396, descriptorIndex := 155, attributes := #[] }, { accessFlags := 10, nameIndex := 525, descriptorIndex := 526, attributes := #[] }, { accessFlags := 26, nameIndex := 674, descriptorIndex := 12, attributes := #[] }, { accessFlags := 26, nameIndex := 677, descriptorIndex := 12, attributes := #[] }, { accessFlags := 10, nameIndex := 11, descriptorIndex := 12, attributes := #[] }, { accessFlags := 74, nameIndex := 175, descriptorIndex := 176, attributes := #[] }, { accessFlags := 10, nameIndex := 491, descriptorIndex := 222, attributes := #[] }, { accessFlags := 74, nameIndex := 29, descriptorIndex := 30, attributes := #[] }, { accessFlags := 74, nameIndex := 154, descriptorIndex := 155, attributes := #[] }, { accessFlags := 10, nameIndex := 217, descriptorIndex := 218, attributes := #[] }, { accessFlags := 10, nameIndex := 221, descriptorIndex := 222, attributes := #[] }, { accessFlags := 8, nameIndex := 562, descriptorIndex := 563, attributes := #[] }])
  fields := #[{ name := "in", type := (.object "java/io/InputStream"), accessFlags := 25, slot := 0, constantValue := 0 }, { name := "out", type := (.object "java/io/PrintStream"), accessFlags := 25, slot := 1, constantValue := 0 }, { name := "err", type := (.object "java/io/PrintStream"), accessFlags := 25, slot := 2, constantValue := 0 }, { name := "initialIn", type := (.object "java/io/InputStream"), accessFlags := 10, slot := 3, constantValue := 0 }, { name := "NEVER", type := .int, accessFlags := 26, slot := 4, constantValue := 0 }, { name := "MAYBE", type := .int, accessFlags := 26, slot := 5, constantValue := 0 }, { name := "allowSecurityManager", type := .int, accessFlags := 10, slot := 6, constantValue := 0 }, { name := "security", type := (.object "java/lang/SecurityManager"), accessFlags := 74, slot := 7, constantValue := 0 }, { name := "notSupportedJnuEncoding", type := (.object "java/lang/String"), accessFlags := 10, slot := 8, constantValue := 0 }, { name := "cons", type := (.object "java/io/Console"), accessFlags := 74, slot := 9, constantValue := 0 }, { name := "initialErrStream", type := (.object "java/io/PrintStream"), accessFlags := 74, slot := 10, constantValue := 0 }, { name := "props", type := (.object "java/util/Properties"), accessFlags := 10, slot := 11, constantValue := 0 }, { name := "lineSeparator", type := (.object "java/lang/String"), accessFlags := 10, slot := 12, constantValue := 0 }, { name := "bootLayer", type := (.object "java/lang/ModuleLayer"), accessFlags := 8, slot := 13, constantValue := 0 }]
  methods := #[k30m0, k30m1]
  instanceTypes := #[]
  staticTypes := #[(.object "java/io/InputStream"), (.object "java/io/PrintStream"), (.object "java/io/PrintStream"), (.object "java/io/InputStream"), .int, .int, .int, (.object "java/lang/SecurityManager"), (.object "java/lang/String"), (.object "java/io/Console"), (.object "java/io/PrintStream"), (.object "java/util/Properties"), (.object "java/lang/String"), (.object "java/lang/ModuleLayer")]
  resolved := Array.replicate 834 none
  statics := none }

def pool31 : Array CpInfo := pool [(2, .class_ 4), (1, u "java/lang/Object"), (0, u "<init>"), (0, u "()V"), (35, .class_ 44), (1, u "java/util/Objects"), (0, u "requireNonNull"), (0, u "(Ljava/lang/Object;)Ljava/lang/Object;")] 137

def k31m0 : Method := { name := "<init>", desc := "()V", sig := { parameters := [], returnType := none }, accessFlags := 2, code := none }
def k31c1 : Code := { maxStack := 2, maxLocals := 1, code := jdk_31_method_10_code, exceptionTable := #[], attributes := #[] }
def k31m1 : Method := { name := "requireNonNull", desc := "(Ljava/lang/Object;)Ljava/lang/Object;", sig := { parameters := [(.object "java/lang/Object")], returnType := some (.object "java/lang/Object") }, accessFlags := 9, code := some k31c1 }
/-- java/util/Objects -/
def k31 : Class := { plain "java/util/Objects" (some 0) with
  accessFlags := 49
  interfaces := #[]
  cf := some (fileOf pool31 42 #[] #[{ accessFlags := 2, nameIndex := 5, descriptorIndex := 6, attributes := #[] }, { accessFlags := 9, nameIndex := 45, descriptorIndex := 46, attributes := #[] }] 49 2 #[] #[])
  fields := #[]
  methods := #[k31m0, k31m1]
  instanceTypes := #[]
  staticTypes := #[]
  resolved := Array.replicate 184 none
  statics := none }

def pool32 : Array CpInfo := pool [(1, .class_ 2), (0, u "java/lang/Class"), (0, .class_ 4), (0, u "java/lang/Object")] 0

/-- java/lang/Class -/
def k32 : Class := { plain "java/lang/Class" (some 0) with
  accessFlags := 49
  interfaces := #[]
  cf := some (fileOf pool32 1 #[] #[] 49 3 #[] #[])
  fields := #[]
  methods := #[]
  instanceTypes := #[]
  staticTypes := #[]
  resolved := Array.replicate 5 none
  statics := none }

/-- the primitive byte -/
def k33 : Class := { plain "byte" none with kind := .primitive 'B', accessFlags := 0x411 }
/-- [B -/
def k34 : Class := { plain "[B" (some 0) with kind := .array 33 .byte, interfaces := #[9, 10], accessFlags := 1041 }

/-- the primitive int -/
def k35 : Class := { plain "int" none with kind := .primitive 'I', accessFlags := 0x411 }
/-- [I -/
def k36 : Class := { plain "[I" (some 0) with kind := .array 35 .int, interfaces := #[9, 10], accessFlags := 1041 }

/-- [Ljava/lang/Object; -/
def k37 : Class := { plain "[Ljava/lang/Object;" (some 0) with kind := .array 0 (.object "java/lang/Object"), interfaces := #[9, 10], accessFlags := 1041, mirror := some 2 }

def heap : Heap := #[{ cls := 11, slots := #[.long 0, .int 0, .ref 3, .ref 4], vm := .statics 11 },
  { cls := 14, slots := #[.long 0, .int 0, .null, .ref 6, .ref 5, .null, .null, .null, .int 0, .int 1], vm := .statics 14 },
  { cls := 32, slots := #[], vm := .mirror 37 },
  { cls := 37, slots := #[], vm := .none },
  { cls := 37, slots := #[], vm := .none },
  { cls := 18, slots := #[.ref 4, .int 0], vm := .none },
  { cls := 0, slots := #[], vm := .none }]
def classes : Array Class := #[k0, k1, k2, k3, k4, k5, k6, k7, k8, k9, k10, k11, k12, k13, k14, k15, k16, k17, k18, k19, k20, k21, k22, k23, k24, k25, k26, k27, k28, k29, k30, k31, k32, k33, k34, k35, k36, k37]
def interned : List (Array UInt16 × Addr) := []
def slotsUsed : Nat := 16
def theMethod : MethodId := ⟨1, 1⟩
def args0 : Array Value := #[.int 3, .long 5, .long 65, .long 7]
def aboutOver (below : List Frame) : State where
  vm := { classes := classes, interned := interned.toArray }
  heap := heap
  slotsUsed := slotsUsed
  threads := #[{ frames := .invoking theMethod args0 :: below }]
def below0 : List Frame := [.native { method := ⟨0, 0⟩, args := #[] }]
def about1 : State := aboutOver below0
def p0 : Program := .bare "" "" ""
def e0 : Env := launch0.env 0 0 0
theorem w_frames : about1.frames = Frame.invoking theMethod args0 :: below0 := rfl
set_option maxRecDepth 65536 in
theorem w_args : argsFit about1.vm theMethod args0 = true := by decide +kernel
set_option maxRecDepth 65536 in
theorem w_heap : heapFits about1 = true := by decide +kernel
set_option maxRecDepth 65536 in
theorem w_runnable : about1.curStatus? = some .runnable := by decide +kernel
set_option maxRecDepth 65536 in
theorem w_alone : about1.alone = true := by decide +kernel
set_option maxRecDepth 65536 in
theorem w_named : about1.methodNamed? x = some theMethod := by decide +kernel
set_option maxRecDepth 65536 in
theorem w_hears : about1.hears theMethod below0 = true := by decide +kernel
set_option maxRecDepth 65536 in
theorem w_ripe : about1.ripe theMethod args0 below0 = true := by decide +kernel
theorem w_running : about1.status = .running := rfl
set_option maxRecDepth 65536 in
theorem w_room : about1.hasRoom e0.platform room_1 = true :=
  launch0.hasRoom_least _ room_1 (by decide +kernel) (by decide +kernel) (by decide +kernel) (by decide +kernel) (by decide +kernel) (by decide +kernel)
theorem allAtoms_all (ts : List Jvm.Cond) (a : Array Jvm.Value) (st : Jvm.State) : (allAtoms ts).before a st = ts.all (fun c => c.before a st) := by
  induction ts with
  | nil => rfl
  | cons c t ih =>
    show (Jvm.Cond.and c (allAtoms t)).before a st = _
    rw [Jvm.Cond.before_and, ih, List.all_cons]
def words1 : List Jvm.Cond := Jvm.Cond.code x code maxLocals ret :: tables_1
/-- a 'code' word, met by the world's own term for the bytes: nothing is compared byte by byte -/
theorem code_word {y : MethodName} {bytes : ByteArray} {mx : Nat} {rt : Option FieldType} {a : Array Value} {s : State} {m : MethodId} {meth : Method} {c : Code} (h1 : s.methodNamed? y = some m) (h2 : s.vm.method? m = some meth) (h3 : meth.code = some c) (h4 : c.code = bytes)
    (h5 : (c.maxLocals == mx && c.exceptionTable.isEmpty && decide (c.maxStack ≤ mostOperands) && decide (meth.sig.returnType = rt) && !meth.locks && decide (parseMethodDescriptor y.desc = some meth.sig)) = true) : (Jvm.Cond.code y bytes mx rt).before a s = true := by
  simp only [Bool.and_eq_true, beq_iff_eq, Bool.not_eq_true', decide_eq_true_eq] at h5
  obtain ⟨⟨⟨⟨⟨g1, g2⟩, g3⟩, g4⟩, g5⟩, g6⟩ := h5
  simp [Cond.before, Cond.holds, Cond.value, h1, h2, h3, h4, g1, g2, g3, g4, g5, g6]
def isCode : Jvm.Cond → Bool
  | .code _ _ _ _ => true
  | _ => false
theorem all_split {L : List Jvm.Cond} {P : Jvm.Cond → Bool} (h1 : L.all (fun c => isCode c || P c) = true) (h2 : ∀ c ∈ L.filter isCode, P c = true) : L.all P = true := by
  refine List.all_eq_true.mpr fun c hc => ?_
  have h := List.all_eq_true.mp h1 c hc
  rcases Bool.eq_false_or_eq_true (isCode c) with hi | hi
  · exact h2 c (List.mem_filter.mpr ⟨hc, hi⟩)
  · simpa [hi] using h
set_option maxRecDepth 65536 in
theorem w_c0 : (Jvm.Cond.code x code maxLocals ret).before args0 about1 = true := code_word (m := ⟨1, 1⟩) (meth := k1m1) (c := k1c1) (by decide +kernel) rfl rfl rfl (by decide +kernel)
set_option maxRecDepth 65536 in
theorem w_c1 : (Jvm.Cond.code ({ cls := "java/util/ArrayList", name := "<init>", desc := "()V" } : Jvm.MethodName) jdk_38_method_2_code (1 : Nat) (Option.none : Option Jvm.ClassFile.FieldType)).before args0 about1 = true := code_word (m := ⟨11, 0⟩) (meth := k11m0) (c := k11c0) (by decide +kernel) rfl rfl rfl (by decide +kernel)
set_option maxRecDepth 65536 in
theorem w_c2 : (Jvm.Cond.code ({ cls := "java/util/AbstractList", name := "<init>", desc := "()V" } : Jvm.MethodName) jdk_39_method_1_code (1 : Nat) (Option.none : Option Jvm.ClassFile.FieldType)).before args0 about1 = true := code_word (m := ⟨7, 0⟩) (meth := k7m0) (c := k7c0) (by decide +kernel) rfl rfl rfl (by decide +kernel)
set_option maxRecDepth 65536 in
theorem w_c3 : (Jvm.Cond.code ({ cls := "java/util/AbstractCollection", name := "<init>", desc := "()V" } : Jvm.MethodName) jdk_22_method_1_code (1 : Nat) (Option.none : Option Jvm.ClassFile.FieldType)).before args0 about1 = true := code_word (m := ⟨4, 0⟩) (meth := k4m0) (c := k4c0) (by decide +kernel) rfl rfl rfl (by decide +kernel)
set_option maxRecDepth 65536 in
theorem w_c4 : (Jvm.Cond.code ({ cls := "java/lang/Object", name := "<init>", desc := "()V" } : Jvm.MethodName) object_method_1_code (1 : Nat) (Option.none : Option Jvm.ClassFile.FieldType)).before args0 about1 = true := code_word (m := ⟨0, 0⟩) (meth := k0m0) (c := k0c0) (by decide +kernel) rfl rfl rfl (by decide +kernel)
set_option maxRecDepth 65536 in
theorem w_c5 : (Jvm.Cond.code ({ cls := "com/example/kept_inbox/keptinbox/Unread", name := "<init>", desc := "(Ljava/util/List;)V" } : Jvm.MethodName) prog_7_method_1_code (2 : Nat) (Option.none : Option Jvm.ClassFile.FieldType)).before args0 about1 = true := code_word (m := ⟨13, 0⟩) (meth := k13m0) (c := k13c0) (by decide +kernel) rfl rfl rfl (by decide +kernel)
set_option maxRecDepth 65536 in
theorem w_c6 : (Jvm.Cond.code ({ cls := "java/lang/Record", name := "<init>", desc := "()V" } : Jvm.MethodName) jdk_30_method_1_code (1 : Nat) (Option.none : Option Jvm.ClassFile.FieldType)).before args0 about1 = true := code_word (m := ⟨12, 0⟩) (meth := k12m0) (c := k12c0) (by decide +kernel) rfl rfl rfl (by decide +kernel)
set_option maxRecDepth 65536 in
theorem w_c7 : (Jvm.Cond.code ({ cls := "java/util/List", name := "copyOf", desc := "(Ljava/util/Collection;)Ljava/util/List;" } : Jvm.MethodName) jdk_40_method_48_code (1 : Nat) (Option.some (Jvm.ClassFile.FieldType.object "java/util/List"))).before args0 about1 = true := code_word (m := ⟨6, 4⟩) (meth := k6m4) (c := k6c4) (by decide +kernel) rfl rfl rfl (by decide +kernel)
set_option maxRecDepth 65536 in
theorem w_c8 : (Jvm.Cond.code ({ cls := "java/util/ImmutableCollections", name := "listCopy", desc := "(Ljava/util/Collection;)Ljava/util/List;" } : Jvm.MethodName) jdk_56_method_3_code (2 : Nat) (Option.some (Jvm.ClassFile.FieldType.object "java/util/List"))).before args0 about1 = true := code_word (m := ⟨14, 1⟩) (meth := k14m1) (c := k14c1) (by decide +kernel) rfl rfl rfl (by decide +kernel)
set_option maxRecDepth 65536 in
theorem w_c9 : (Jvm.Cond.code ({ cls := "java/util/ArrayList", name := "isEmpty", desc := "()Z" } : Jvm.MethodName) jdk_38_method_9_code (1 : Nat) (Option.some Jvm.ClassFile.FieldType.boolean)).before args0 about1 = true := code_word (m := ⟨11, 3⟩) (meth := k11m3) (c := k11c3) (by decide +kernel) rfl rfl rfl (by decide +kernel)
set_option maxRecDepth 65536 in
theorem w_c10 : (Jvm.Cond.code ({ cls := "java/util/List", name := "of", desc := "()Ljava/util/List;" } : Jvm.MethodName) jdk_40_method_36_code (0 : Nat) (Option.some (Jvm.ClassFile.FieldType.object "java/util/List"))).before args0 about1 = true := code_word (m := ⟨6, 2⟩) (meth := k6m2) (c := k6c2) (by decide +kernel) rfl rfl rfl (by decide +kernel)
set_option maxRecDepth 65536 in
theorem w_c11 : (Jvm.Cond.code ({ cls := "com/example/kept_inbox/keptinbox/Unread", name := "total", desc := "()J" } : Jvm.MethodName) prog_7_method_2_code (5 : Nat) (Option.some Jvm.ClassFile.FieldType.long)).before args0 about1 = true := code_word (m := ⟨13, 1⟩) (meth := k13m1) (c := k13c1) (by decide +kernel) rfl rfl rfl (by decide +kernel)
set_option maxRecDepth 65536 in
theorem w_c12 : (Jvm.Cond.code ({ cls := "java/util/ImmutableCollections$AbstractImmutableList", name := "iterator", desc := "()Ljava/util/Iterator;" } : Jvm.MethodName) jdk_46_method_10_code (1 : Nat) (Option.some (Jvm.ClassFile.FieldType.object "java/util/Iterator"))).before args0 about1 = true := code_word (m := ⟨16, 1⟩) (meth := k16m1) (c := k16c1) (by decide +kernel) rfl rfl rfl (by decide +kernel)
set_option maxRecDepth 65536 in
theorem w_c13 : (Jvm.Cond.code ({ cls := "java/util/ImmutableCollections$ListN", name := "size", desc := "()I" } : Jvm.MethodName) jdk_45_method_3_code (1 : Nat) (Option.some Jvm.ClassFile.FieldType.int)).before args0 about1 = true := code_word (m := ⟨18, 1⟩) (meth := k18m1) (c := k18c1) (by decide +kernel) rfl rfl rfl (by decide +kernel)
set_option maxRecDepth 65536 in
theorem w_c14 : (Jvm.Cond.code ({ cls := "java/util/ImmutableCollections$ListItr", name := "<init>", desc := "(Ljava/util/List;I)V" } : Jvm.MethodName) jdk_53_method_1_code (3 : Nat) (Option.none : Option Jvm.ClassFile.FieldType)).before args0 about1 = true := code_word (m := ⟨21, 0⟩) (meth := k21m0) (c := k21c0) (by decide +kernel) rfl rfl rfl (by decide +kernel)
set_option maxRecDepth 65536 in
theorem w_c15 : (Jvm.Cond.code ({ cls := "java/util/ImmutableCollections$ListItr", name := "hasNext", desc := "()Z" } : Jvm.MethodName) jdk_53_method_3_code (1 : Nat) (Option.some Jvm.ClassFile.FieldType.boolean)).before args0 about1 = true := code_word (m := ⟨21, 1⟩) (meth := k21m1) (c := k21c1) (by decide +kernel) rfl rfl rfl (by decide +kernel)
set_option maxRecDepth 65536 in
theorem w_c16 : (Jvm.Cond.code ({ cls := "com/example/kept_inbox/keptinbox/UnreadConversation", name := "<init>", desc := "(Ljava/lang/String;JLjava/lang/String;)V" } : Jvm.MethodName) prog_8_method_1_code (5 : Nat) (Option.none : Option Jvm.ClassFile.FieldType)).before args0 about1 = true := code_word (m := ⟨22, 0⟩) (meth := k22m0) (c := k22c0) (by decide +kernel) rfl rfl rfl (by decide +kernel)
set_option maxRecDepth 65536 in
theorem w_c17 : (Jvm.Cond.code ({ cls := "java/util/ArrayList", name := "add", desc := "(Ljava/lang/Object;)Z" } : Jvm.MethodName) jdk_38_method_25_code (2 : Nat) (Option.some Jvm.ClassFile.FieldType.boolean)).before args0 about1 = true := code_word (m := ⟨11, 6⟩) (meth := k11m6) (c := k11c6) (by decide +kernel) rfl rfl rfl (by decide +kernel)
set_option maxRecDepth 65536 in
theorem w_c18 : (Jvm.Cond.code ({ cls := "java/util/ArrayList", name := "add", desc := "(Ljava/lang/Object;[Ljava/lang/Object;I)V" } : Jvm.MethodName) jdk_38_method_24_code (4 : Nat) (Option.none : Option Jvm.ClassFile.FieldType)).before args0 about1 = true := code_word (m := ⟨11, 5⟩) (meth := k11m5) (c := k11c5) (by decide +kernel) rfl rfl rfl (by decide +kernel)
set_option maxRecDepth 65536 in
theorem w_c19 : (Jvm.Cond.code ({ cls := "java/util/ArrayList", name := "grow", desc := "()[Ljava/lang/Object;" } : Jvm.MethodName) jdk_38_method_7_code (1 : Nat) (Option.some (Jvm.ClassFile.FieldType.array (Jvm.ClassFile.FieldType.object "java/lang/Object")))).before args0 about1 = true := code_word (m := ⟨11, 2⟩) (meth := k11m2) (c := k11c2) (by decide +kernel) rfl rfl rfl (by decide +kernel)
set_option maxRecDepth 65536 in
theorem w_c20 : (Jvm.Cond.code ({ cls := "java/util/ArrayList", name := "grow", desc := "(I)[Ljava/lang/Object;" } : Jvm.MethodName) jdk_38_method_6_code (4 : Nat) (Option.some (Jvm.ClassFile.FieldType.array (Jvm.ClassFile.FieldType.object "java/lang/Object")))).before args0 about1 = true := code_word (m := ⟨11, 1⟩) (meth := k11m1) (c := k11c1) (by decide +kernel) rfl rfl rfl (by decide +kernel)
set_option maxRecDepth 65536 in
theorem w_c21 : (Jvm.Cond.code ({ cls := "java/lang/Math", name := "max", desc := "(II)I" } : Jvm.MethodName) jdk_29_method_65_code (2 : Nat) (Option.some Jvm.ClassFile.FieldType.int)).before args0 about1 = true := code_word (m := ⟨28, 1⟩) (meth := k28m1) (c := k28c1) (by decide +kernel) rfl rfl rfl (by decide +kernel)
set_option maxRecDepth 65536 in
theorem w_c22 : (Jvm.Cond.code ({ cls := "java/util/ArrayList", name := "toArray", desc := "()[Ljava/lang/Object;" } : Jvm.MethodName) jdk_38_method_16_code (1 : Nat) (Option.some (Jvm.ClassFile.FieldType.array (Jvm.ClassFile.FieldType.object "java/lang/Object")))).before args0 about1 = true := code_word (m := ⟨11, 4⟩) (meth := k11m4) (c := k11c4) (by decide +kernel) rfl rfl rfl (by decide +kernel)
set_option maxRecDepth 65536 in
theorem w_c23 : (Jvm.Cond.code ({ cls := "java/util/Arrays", name := "copyOf", desc := "([Ljava/lang/Object;I)[Ljava/lang/Object;" } : Jvm.MethodName) jdk_65_method_119_code (2 : Nat) (Option.some (Jvm.ClassFile.FieldType.array (Jvm.ClassFile.FieldType.object "java/lang/Object")))).before args0 about1 = true := code_word (m := ⟨29, 1⟩) (meth := k29m1) (c := k29c1) (by decide +kernel) rfl rfl rfl (by decide +kernel)
set_option maxRecDepth 65536 in
theorem w_c24 : (Jvm.Cond.code ({ cls := "java/util/Arrays", name := "copyOf", desc := "([Ljava/lang/Object;ILjava/lang/Class;)[Ljava/lang/Object;" } : Jvm.MethodName) jdk_65_method_120_code (4 : Nat) (Option.some (Jvm.ClassFile.FieldType.array (Jvm.ClassFile.FieldType.object "java/lang/Object")))).before args0 about1 = true := code_word (m := ⟨29, 2⟩) (meth := k29m2) (c := k29c2) (by decide +kernel) rfl rfl rfl (by decide +kernel)
set_option maxRecDepth 65536 in
theorem w_c25 : (Jvm.Cond.code ({ cls := "java/lang/Math", name := "min", desc := "(II)I" } : Jvm.MethodName) jdk_29_method_69_code (2 : Nat) (Option.some Jvm.ClassFile.FieldType.int)).before args0 about1 = true := code_word (m := ⟨28, 2⟩) (meth := k28m2) (c := k28c2) (by decide +kernel) rfl rfl rfl (by decide +kernel)
set_option maxRecDepth 65536 in
theorem w_c26 : (Jvm.Cond.code ({ cls := "java/util/List", name := "of", desc := "([Ljava/lang/Object;)Ljava/util/List;" } : Jvm.MethodName) jdk_40_method_47_code (2 : Nat) (Option.some (Jvm.ClassFile.FieldType.object "java/util/List"))).before args0 about1 = true := code_word (m := ⟨6, 3⟩) (meth := k6m3) (c := k6c3) (by decide +kernel) rfl rfl rfl (by decide +kernel)
set_option maxRecDepth 65536 in
theorem w_c27 : (Jvm.Cond.code ({ cls := "java/util/ImmutableCollections", name := "listFromArray", desc := "([Ljava/lang/Object;)Ljava/util/List;" } : Jvm.MethodName) jdk_56_method_4_code (3 : Nat) (Option.some (Jvm.ClassFile.FieldType.object "java/util/List"))).before args0 about1 = true := code_word (m := ⟨14, 2⟩) (meth := k14m2) (c := k14c2) (by decide +kernel) rfl rfl rfl (by decide +kernel)
set_option maxRecDepth 65536 in
theorem w_c28 : (Jvm.Cond.code ({ cls := "java/util/Objects", name := "requireNonNull", desc := "(Ljava/lang/Object;)Ljava/lang/Object;" } : Jvm.MethodName) jdk_31_method_10_code (1 : Nat) (Option.some (Jvm.ClassFile.FieldType.object "java/lang/Object"))).before args0 about1 = true := code_word (m := ⟨31, 1⟩) (meth := k31m1) (c := k31c1) (by decide +kernel) rfl rfl rfl (by decide +kernel)
set_option maxRecDepth 65536 in
theorem w_c29 : (Jvm.Cond.code ({ cls := "java/util/ImmutableCollections$ListN", name := "<init>", desc := "([Ljava/lang/Object;Z)V" } : Jvm.MethodName) jdk_45_method_1_code (3 : Nat) (Option.none : Option Jvm.ClassFile.FieldType)).before args0 about1 = true := code_word (m := ⟨18, 0⟩) (meth := k18m0) (c := k18c0) (by decide +kernel) rfl rfl rfl (by decide +kernel)
set_option maxRecDepth 65536 in
theorem w_c30 : (Jvm.Cond.code ({ cls := "java/util/ImmutableCollections$AbstractImmutableList", name := "<init>", desc := "()V" } : Jvm.MethodName) jdk_46_method_1_code (1 : Nat) (Option.none : Option Jvm.ClassFile.FieldType)).before args0 about1 = true := code_word (m := ⟨16, 0⟩) (meth := k16m0) (c := k16c0) (by decide +kernel) rfl rfl rfl (by decide +kernel)
set_option maxRecDepth 65536 in
theorem w_c31 : (Jvm.Cond.code ({ cls := "java/util/ImmutableCollections$AbstractImmutableCollection", name := "<init>", desc := "()V" } : Jvm.MethodName) jdk_47_method_1_code (1 : Nat) (Option.none : Option Jvm.ClassFile.FieldType)).before args0 about1 = true := code_word (m := ⟨15, 0⟩) (meth := k15m0) (c := k15c0) (by decide +kernel) rfl rfl rfl (by decide +kernel)
set_option maxRecDepth 65536 in
theorem w_c32 : (Jvm.Cond.code ({ cls := "java/util/ImmutableCollections$ListN", name := "get", desc := "(I)Ljava/lang/Object;" } : Jvm.MethodName) jdk_45_method_4_code (2 : Nat) (Option.some (Jvm.ClassFile.FieldType.object "java/lang/Object"))).before args0 about1 = true := code_word (m := ⟨18, 2⟩) (meth := k18m2) (c := k18c2) (by decide +kernel) rfl rfl rfl (by decide +kernel)
set_option maxRecDepth 65536 in
theorem w_c33 : (Jvm.Cond.code ({ cls := "com/example/kept_inbox/keptinbox/UnreadConversation", name := "waiting", desc := "()J" } : Jvm.MethodName) prog_8_method_6_code (1 : Nat) (Option.some Jvm.ClassFile.FieldType.long)).before args0 about1 = true := code_word (m := ⟨22, 1⟩) (meth := k22m1) (c := k22c1) (by decide +kernel) rfl rfl rfl (by decide +kernel)
set_option maxRecDepth 65536 in
theorem w_c34 : (Jvm.Cond.code ({ cls := "java/util/ImmutableCollections$List12", name := "<init>", desc := "(Ljava/lang/Object;)V" } : Jvm.MethodName) jdk_44_method_1_code (2 : Nat) (Option.none : Option Jvm.ClassFile.FieldType)).before args0 about1 = true := code_word (m := ⟨17, 0⟩) (meth := k17m0) (c := k17c0) (by decide +kernel) rfl rfl rfl (by decide +kernel)
set_option maxRecDepth 65536 in
theorem w_c35 : (Jvm.Cond.code ({ cls := "java/util/ImmutableCollections$List12", name := "size", desc := "()I" } : Jvm.MethodName) jdk_44_method_3_code (1 : Nat) (Option.some Jvm.ClassFile.FieldType.int)).before args0 about1 = true := code_word (m := ⟨17, 2⟩) (meth := k17m2) (c := k17c2) (by decide +kernel) rfl rfl rfl (by decide +kernel)
set_option maxRecDepth 65536 in
theorem w_c36 : (Jvm.Cond.code ({ cls := "java/util/ImmutableCollections$List12", name := "get", desc := "(I)Ljava/lang/Object;" } : Jvm.MethodName) jdk_44_method_5_code (2 : Nat) (Option.some (Jvm.ClassFile.FieldType.object "java/lang/Object"))).before args0 about1 = true := code_word (m := ⟨17, 3⟩) (meth := k17m3) (c := k17c3) (by decide +kernel) rfl rfl rfl (by decide +kernel)
set_option maxRecDepth 65536 in
theorem w_c37 : (Jvm.Cond.code ({ cls := "java/util/ImmutableCollections$List12", name := "<init>", desc := "(Ljava/lang/Object;Ljava/lang/Object;)V" } : Jvm.MethodName) jdk_44_method_2_code (3 : Nat) (Option.none : Option Jvm.ClassFile.FieldType)).before args0 about1 = true := code_word (m := ⟨17, 1⟩) (meth := k17m1) (c := k17c1) (by decide +kernel) rfl rfl rfl (by decide +kernel)
def codes1 : List Jvm.Cond := [Jvm.Cond.code x code maxLocals ret, Jvm.Cond.code ({ cls := "java/util/ArrayList", name := "<init>", desc := "()V" } : Jvm.MethodName) jdk_38_method_2_code (1 : Nat) (Option.none : Option Jvm.ClassFile.FieldType), Jvm.Cond.code ({ cls := "java/util/AbstractList", name := "<init>", desc := "()V" } : Jvm.MethodName) jdk_39_method_1_code (1 : Nat) (Option.none : Option Jvm.ClassFile.FieldType), Jvm.Cond.code ({ cls := "java/util/AbstractCollection", name := "<init>", desc := "()V" } : Jvm.MethodName) jdk_22_method_1_code (1 : Nat) (Option.none : Option Jvm.ClassFile.FieldType), Jvm.Cond.code ({ cls := "java/lang/Object", name := "<init>", desc := "()V" } : Jvm.MethodName) object_method_1_code (1 : Nat) (Option.none : Option Jvm.ClassFile.FieldType), Jvm.Cond.code ({ cls := "com/example/kept_inbox/keptinbox/Unread", name := "<init>", desc := "(Ljava/util/List;)V" } : Jvm.MethodName) prog_7_method_1_code (2 : Nat) (Option.none : Option Jvm.ClassFile.FieldType), Jvm.Cond.code ({ cls := "java/lang/Record", name := "<init>", desc := "()V" } : Jvm.MethodName) jdk_30_method_1_code (1 : Nat) (Option.none : Option Jvm.ClassFile.FieldType), Jvm.Cond.code ({ cls := "java/util/List", name := "copyOf", desc := "(Ljava/util/Collection;)Ljava/util/List;" } : Jvm.MethodName) jdk_40_method_48_code (1 : Nat) (Option.some (Jvm.ClassFile.FieldType.object "java/util/List")), Jvm.Cond.code ({ cls := "java/util/ImmutableCollections", name := "listCopy", desc := "(Ljava/util/Collection;)Ljava/util/List;" } : Jvm.MethodName) jdk_56_method_3_code (2 : Nat) (Option.some (Jvm.ClassFile.FieldType.object "java/util/List")), Jvm.Cond.code ({ cls := "java/util/ArrayList", name := "isEmpty", desc := "()Z" } : Jvm.MethodName) jdk_38_method_9_code (1 : Nat) (Option.some Jvm.ClassFile.FieldType.boolean), Jvm.Cond.code ({ cls := "java/util/List", name := "of", desc := "()Ljava/util/List;" } : Jvm.MethodName) jdk_40_method_36_code (0 : Nat) (Option.some (Jvm.ClassFile.FieldType.object "java/util/List")), Jvm.Cond.code ({ cls := "com/example/kept_inbox/keptinbox/Unread", name := "total", desc := "()J" } : Jvm.MethodName) prog_7_method_2_code (5 : Nat) (Option.some Jvm.ClassFile.FieldType.long), Jvm.Cond.code ({ cls := "java/util/ImmutableCollections$AbstractImmutableList", name := "iterator", desc := "()Ljava/util/Iterator;" } : Jvm.MethodName) jdk_46_method_10_code (1 : Nat) (Option.some (Jvm.ClassFile.FieldType.object "java/util/Iterator")), Jvm.Cond.code ({ cls := "java/util/ImmutableCollections$ListN", name := "size", desc := "()I" } : Jvm.MethodName) jdk_45_method_3_code (1 : Nat) (Option.some Jvm.ClassFile.FieldType.int), Jvm.Cond.code ({ cls := "java/util/ImmutableCollections$ListItr", name := "<init>", desc := "(Ljava/util/List;I)V" } : Jvm.MethodName) jdk_53_method_1_code (3 : Nat) (Option.none : Option Jvm.ClassFile.FieldType), Jvm.Cond.code ({ cls := "java/util/ImmutableCollections$ListItr", name := "hasNext", desc := "()Z" } : Jvm.MethodName) jdk_53_method_3_code (1 : Nat) (Option.some Jvm.ClassFile.FieldType.boolean), Jvm.Cond.code ({ cls := "com/example/kept_inbox/keptinbox/UnreadConversation", name := "<init>", desc := "(Ljava/lang/String;JLjava/lang/String;)V" } : Jvm.MethodName) prog_8_method_1_code (5 : Nat) (Option.none : Option Jvm.ClassFile.FieldType), Jvm.Cond.code ({ cls := "java/util/ArrayList", name := "add", desc := "(Ljava/lang/Object;)Z" } : Jvm.MethodName) jdk_38_method_25_code (2 : Nat) (Option.some Jvm.ClassFile.FieldType.boolean), Jvm.Cond.code ({ cls := "java/util/ArrayList", name := "add", desc := "(Ljava/lang/Object;[Ljava/lang/Object;I)V" } : Jvm.MethodName) jdk_38_method_24_code (4 : Nat) (Option.none : Option Jvm.ClassFile.FieldType), Jvm.Cond.code ({ cls := "java/util/ArrayList", name := "grow", desc := "()[Ljava/lang/Object;" } : Jvm.MethodName) jdk_38_method_7_code (1 : Nat) (Option.some (Jvm.ClassFile.FieldType.array (Jvm.ClassFile.FieldType.object "java/lang/Object"))), Jvm.Cond.code ({ cls := "java/util/ArrayList", name := "grow", desc := "(I)[Ljava/lang/Object;" } : Jvm.MethodName) jdk_38_method_6_code (4 : Nat) (Option.some (Jvm.ClassFile.FieldType.array (Jvm.ClassFile.FieldType.object "java/lang/Object"))), Jvm.Cond.code ({ cls := "java/lang/Math", name := "max", desc := "(II)I" } : Jvm.MethodName) jdk_29_method_65_code (2 : Nat) (Option.some Jvm.ClassFile.FieldType.int), Jvm.Cond.code ({ cls := "java/util/ArrayList", name := "toArray", desc := "()[Ljava/lang/Object;" } : Jvm.MethodName) jdk_38_method_16_code (1 : Nat) (Option.some (Jvm.ClassFile.FieldType.array (Jvm.ClassFile.FieldType.object "java/lang/Object"))), Jvm.Cond.code ({ cls := "java/util/Arrays", name := "copyOf", desc := "([Ljava/lang/Object;I)[Ljava/lang/Object;" } : Jvm.MethodName) jdk_65_method_119_code (2 : Nat) (Option.some (Jvm.ClassFile.FieldType.array (Jvm.ClassFile.FieldType.object "java/lang/Object"))), Jvm.Cond.code ({ cls := "java/util/Arrays", name := "copyOf", desc := "([Ljava/lang/Object;ILjava/lang/Class;)[Ljava/lang/Object;" } : Jvm.MethodName) jdk_65_method_120_code (4 : Nat) (Option.some (Jvm.ClassFile.FieldType.array (Jvm.ClassFile.FieldType.object "java/lang/Object"))), Jvm.Cond.code ({ cls := "java/lang/Math", name := "min", desc := "(II)I" } : Jvm.MethodName) jdk_29_method_69_code (2 : Nat) (Option.some Jvm.ClassFile.FieldType.int), Jvm.Cond.code ({ cls := "java/util/List", name := "of", desc := "([Ljava/lang/Object;)Ljava/util/List;" } : Jvm.MethodName) jdk_40_method_47_code (2 : Nat) (Option.some (Jvm.ClassFile.FieldType.object "java/util/List")), Jvm.Cond.code ({ cls := "java/util/ImmutableCollections", name := "listFromArray", desc := "([Ljava/lang/Object;)Ljava/util/List;" } : Jvm.MethodName) jdk_56_method_4_code (3 : Nat) (Option.some (Jvm.ClassFile.FieldType.object "java/util/List")), Jvm.Cond.code ({ cls := "java/util/Objects", name := "requireNonNull", desc := "(Ljava/lang/Object;)Ljava/lang/Object;" } : Jvm.MethodName) jdk_31_method_10_code (1 : Nat) (Option.some (Jvm.ClassFile.FieldType.object "java/lang/Object")), Jvm.Cond.code ({ cls := "java/util/ImmutableCollections$ListN", name := "<init>", desc := "([Ljava/lang/Object;Z)V" } : Jvm.MethodName) jdk_45_method_1_code (3 : Nat) (Option.none : Option Jvm.ClassFile.FieldType), Jvm.Cond.code ({ cls := "java/util/ImmutableCollections$AbstractImmutableList", name := "<init>", desc := "()V" } : Jvm.MethodName) jdk_46_method_1_code (1 : Nat) (Option.none : Option Jvm.ClassFile.FieldType), Jvm.Cond.code ({ cls := "java/util/ImmutableCollections$AbstractImmutableCollection", name := "<init>", desc := "()V" } : Jvm.MethodName) jdk_47_method_1_code (1 : Nat) (Option.none : Option Jvm.ClassFile.FieldType), Jvm.Cond.code ({ cls := "java/util/ImmutableCollections$ListN", name := "get", desc := "(I)Ljava/lang/Object;" } : Jvm.MethodName) jdk_45_method_4_code (2 : Nat) (Option.some (Jvm.ClassFile.FieldType.object "java/lang/Object")), Jvm.Cond.code ({ cls := "com/example/kept_inbox/keptinbox/UnreadConversation", name := "waiting", desc := "()J" } : Jvm.MethodName) prog_8_method_6_code (1 : Nat) (Option.some Jvm.ClassFile.FieldType.long), Jvm.Cond.code ({ cls := "java/util/ImmutableCollections$List12", name := "<init>", desc := "(Ljava/lang/Object;)V" } : Jvm.MethodName) jdk_44_method_1_code (2 : Nat) (Option.none : Option Jvm.ClassFile.FieldType), Jvm.Cond.code ({ cls := "java/util/ImmutableCollections$List12", name := "size", desc := "()I" } : Jvm.MethodName) jdk_44_method_3_code (1 : Nat) (Option.some Jvm.ClassFile.FieldType.int), Jvm.Cond.code ({ cls := "java/util/ImmutableCollections$List12", name := "get", desc := "(I)Ljava/lang/Object;" } : Jvm.MethodName) jdk_44_method_5_code (2 : Nat) (Option.some (Jvm.ClassFile.FieldType.object "java/lang/Object")), Jvm.Cond.code ({ cls := "java/util/ImmutableCollections$List12", name := "<init>", desc := "(Ljava/lang/Object;Ljava/lang/Object;)V" } : Jvm.MethodName) jdk_44_method_2_code (3 : Nat) (Option.none : Option Jvm.ClassFile.FieldType)]
set_option maxRecDepth 65536 in
theorem codes_eq : words1.filter isCode = codes1 := rfl
theorem w_codes : ∀ c ∈ words1.filter isCode, c.before args0 about1 = true := by
  rw [codes_eq]
  intro c hc
  simp only [codes1, List.mem_cons, List.not_mem_nil, or_false] at hc
  rcases hc with rfl | rfl | rfl | rfl | rfl | rfl | rfl | rfl | rfl | rfl | rfl | rfl | rfl | rfl | rfl | rfl | rfl | rfl | rfl | rfl | rfl | rfl | rfl | rfl | rfl | rfl | rfl | rfl | rfl | rfl | rfl | rfl | rfl | rfl | rfl | rfl | rfl | rfl
  · exact w_c0
  · exact w_c1
  · exact w_c2
  · exact w_c3
  · exact w_c4
  · exact w_c5
  · exact w_c6
  · exact w_c7
  · exact w_c8
  · exact w_c9
  · exact w_c10
  · exact w_c11
  · exact w_c12
  · exact w_c13
  · exact w_c14
  · exact w_c15
  · exact w_c16
  · exact w_c17
  · exact w_c18
  · exact w_c19
  · exact w_c20
  · exact w_c21
  · exact w_c22
  · exact w_c23
  · exact w_c24
  · exact w_c25
  · exact w_c26
  · exact w_c27
  · exact w_c28
  · exact w_c29
  · exact w_c30
  · exact w_c31
  · exact w_c32
  · exact w_c33
  · exact w_c34
  · exact w_c35
  · exact w_c36
  · exact w_c37
set_option maxRecDepth 65536 in
theorem w_t1 : (words1.take 24).all (fun c => isCode c || c.before args0 about1) = true := by decide +kernel
set_option maxRecDepth 65536 in
theorem w_t2 : ((words1.drop 24).take 24).all (fun c => isCode c || c.before args0 about1) = true := by decide +kernel
set_option maxRecDepth 65536 in
theorem w_t3 : (((words1.drop 24).drop 24).take 24).all (fun c => isCode c || c.before args0 about1) = true := by decide +kernel
set_option maxRecDepth 65536 in
theorem w_t4 : ((((words1.drop 24).drop 24).drop 24).take 24).all (fun c => isCode c || c.before args0 about1) = true := by decide +kernel
set_option maxRecDepth 65536 in
theorem w_t5 : (((((words1.drop 24).drop 24).drop 24).drop 24).take 24).all (fun c => isCode c || c.before args0 about1) = true := by decide +kernel
set_option maxRecDepth 65536 in
theorem w_t6 : ((((((words1.drop 24).drop 24).drop 24).drop 24).drop 24).take 24).all (fun c => isCode c || c.before args0 about1) = true := by decide +kernel
set_option maxRecDepth 65536 in
theorem w_t7 : (((((((words1.drop 24).drop 24).drop 24).drop 24).drop 24).drop 24).take 24).all (fun c => isCode c || c.before args0 about1) = true := by decide +kernel
set_option maxRecDepth 65536 in
theorem w_t8 : ((((((((words1.drop 24).drop 24).drop 24).drop 24).drop 24).drop 24).drop 24).take 24).all (fun c => isCode c || c.before args0 about1) = true := by decide +kernel
set_option maxRecDepth 65536 in
theorem w_t9 : (((((((((words1.drop 24).drop 24).drop 24).drop 24).drop 24).drop 24).drop 24).drop 24).take 24).all (fun c => isCode c || c.before args0 about1) = true := by decide +kernel
set_option maxRecDepth 65536 in
theorem w_t10 : ((((((((((words1.drop 24).drop 24).drop 24).drop 24).drop 24).drop 24).drop 24).drop 24).drop 24).take 24).all (fun c => isCode c || c.before args0 about1) = true := by decide +kernel
set_option maxRecDepth 65536 in
theorem w_t11 : (((((((((((words1.drop 24).drop 24).drop 24).drop 24).drop 24).drop 24).drop 24).drop 24).drop 24).drop 24).take 24).all (fun c => isCode c || c.before args0 about1) = true := by decide +kernel
set_option maxRecDepth 65536 in
theorem w_t12 : ((((((((((((words1.drop 24).drop 24).drop 24).drop 24).drop 24).drop 24).drop 24).drop 24).drop 24).drop 24).drop 24).take 24).all (fun c => isCode c || c.before args0 about1) = true := by decide +kernel
set_option maxRecDepth 65536 in
theorem w_t13 : ((((((((((((words1.drop 24).drop 24).drop 24).drop 24).drop 24).drop 24).drop 24).drop 24).drop 24).drop 24).drop 24).drop 24).all (fun c => isCode c || c.before args0 about1) = true := by decide +kernel
theorem w_tables : (allAtoms (Jvm.Cond.code x code maxLocals ret :: tables_1)).before args0 about1 = true := by
  rw [allAtoms_all]
  show words1.all (fun c => c.before args0 about1) = true
  refine all_split ?_ w_codes
  rw [← List.take_append_drop 24 words1, List.all_append, w_t1, ← List.take_append_drop 24 (words1.drop 24), List.all_append, w_t2, ← List.take_append_drop 24 ((words1.drop 24).drop 24), List.all_append, w_t3, ← List.take_append_drop 24 (((words1.drop 24).drop 24).drop 24), List.all_append, w_t4, ← List.take_append_drop 24 ((((words1.drop 24).drop 24).drop 24).drop 24), List.all_append, w_t5, ← List.take_append_drop 24 (((((words1.drop 24).drop 24).drop 24).drop 24).drop 24), List.all_append, w_t6, ← List.take_append_drop 24 ((((((words1.drop 24).drop 24).drop 24).drop 24).drop 24).drop 24), List.all_append, w_t7, ← List.take_append_drop 24 (((((((words1.drop 24).drop 24).drop 24).drop 24).drop 24).drop 24).drop 24), List.all_append, w_t8, ← List.take_append_drop 24 ((((((((words1.drop 24).drop 24).drop 24).drop 24).drop 24).drop 24).drop 24).drop 24), List.all_append, w_t9, ← List.take_append_drop 24 (((((((((words1.drop 24).drop 24).drop 24).drop 24).drop 24).drop 24).drop 24).drop 24).drop 24), List.all_append, w_t10, ← List.take_append_drop 24 ((((((((((words1.drop 24).drop 24).drop 24).drop 24).drop 24).drop 24).drop 24).drop 24).drop 24).drop 24), List.all_append, w_t11, ← List.take_append_drop 24 (((((((((((words1.drop 24).drop 24).drop 24).drop 24).drop 24).drop 24).drop 24).drop 24).drop 24).drop 24).drop 24), List.all_append, w_t12, w_t13]
  rfl
set_option maxRecDepth 65536 in
theorem w_rest : rest_1_c.before args0 about1 = true := by decide +kernel
set_option maxRecDepth 65536 in
theorem w_case : (Jvm.Cond.and given_1 narrow_1).before args0 about1 = true := by decide +kernel
theorem w_applies : (headSpec (Jvm.Cond.code x code maxLocals ret :: tables_1) room_1).applies x e0.platform about1 = true :=
  (Spec.applies_iff w_frames).mpr ⟨w_running, w_runnable, w_alone, w_named, w_hears, w_ripe, w_room, w_tables⟩
theorem atStart : AtStart classFile x code maxLocals ret World_1 tables_1 room_1 Calls_1 rest_1 Pre_1 launch0 p0 e0 about1 theMethod args0 below0 :=
  ⟨lists_1, trivial, launch0.admits_env _ _ _, launch0.least_env, fairChoices_fair.cas, fairChoices_fair.clock, w_frames, w_args, w_heap, w_applies, ⟨⟨37, k37, 2, by decide +kernel, rfl, rfl, _, rfl, rfl⟩, trivial⟩, w_rest, w_case⟩
end start1
theorem witness_1 : WitnessClaimed_1 := ⟨start1.p0, start1.e0, start1.about1, start1.theMethod, start1.args0, start1.below0, start1.atStart⟩
end Jvm.Pilot.@@N@@
