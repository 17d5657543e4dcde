import JvmDerived
import JvmDerived.Pilot.@@N@@Statement
import JvmDerived.Pilot.@@N@@Code
set_option linter.unusedVariables false
set_option linter.unusedSimpArgs false
namespace Jvm.RoadKit
open Sem ClassFile Op Lib Jvm.Stand Jvm.Free Jvm.LawKit
section New
variable {p : Program} {l : Launch} {e : Env} {R : Room} {s : State} {m : MethodId} {args : Array Value} {below : List Frame} {meth : Method} {c : Code} {T : State} {locs : List Loc} {cells slots : Nat}
theorem retI (X : Stand p l e R s m args below meth c T locs cells slots) (hx : p.tables.exec = Jvm.exec) {pc : Nat} {Ls : Array Slot} {z : Int32} {rest : List Value} (hret : meth.sig.returnType = some .int) (hd : decode c.code pc = .ok (.ireturn, 1)) {fs : List Frame}
    (hl : ∀ (f : JFrame) (acts : List Action), f.method = m → f.locked = none → f.entered = [] → (doReturn e (T.setTop f) acts (some (.int z))).1 = T.setFrames fs) : Steps p.tables e below (T.setTop (mkF m pc Ls (.int z :: rest))) (T.setFrames fs) := by
  have hm' : T.vm.method? m = some meth := X.method'
  have hn : narrow .int (.int z) = .int z := rfl
  show Steps p.tables e below (T.setTop { method := m, pc := pc, locals := Ls, stack := _ :: rest, locked := none }) _
  jvm_step X.here [X.here.top, hx, hd, hm', hret, hn]
  first | (intro acts; rw [hl _ acts rfl rfl rfl]) | rw [hl _ _ rfl rfl rfl]
  exact Steps.refl _
end New
end Jvm.RoadKit
namespace Jvm.Pilot.@@N@@
open Jvm Jvm.ClassFile Sem Op Lib Jvm.Free Jvm.Stand Jvm.LawKit Jvm.RoadKit Bundle Jvm.Pilot.@@N@@.Jvm.D
/-- from S the run ends, in a state and with an outcome of which P holds -/
def OGo (p : Program) (e : Env) (below : List Frame) (P : State → Outcome → Prop) (S : State) : Prop :=
  ∃ s₂ o, Steps p.tables e below S s₂ ∧ s₂.status = .running ∧ Ended s₂ below o ∧ P s₂ o
theorem OGo.by {p : Program} {e : Env} {below : List Frame} {P : State → Outcome → Prop} {S S' : State} (h : ∀ t, Steps p.tables e below S' t → Steps p.tables e below S t) (g : OGo p e below P S') : OGo p e below P S := by
  obtain ⟨s₂, o, h1, h2⟩ := g; exact ⟨s₂, o, h _ h1, h2⟩
theorem OGo.of {p : Program} {e : Env} {below : List Frame} {P : State → Outcome → Prop} {S S' : State} (h : Steps p.tables e below S S') (g : OGo p e below P S') : OGo p e below P S := by
  obtain ⟨s₂, o, h1, h2⟩ := g; exact ⟨s₂, o, h.trans h1, h2⟩
theorem OGo.ret {p : Program} {e : Env} {below : List Frame} {P : State → Outcome → Prop} {S S' : State} {o : Outcome} (h : Steps p.tables e below S S') (h1 : S'.status = .running) (h2 : Ended S' below o) (h3 : P S' o) : OGo p e below P S := ⟨S', o, h, h1, h2, h3⟩
section Cps
variable {p : Program} {l : Launch} {e : Env} {R : Room} {s : State} {m : MethodId} {args : Array Value} {below : List Frame} {meth : Method} {c : Code} {T : State} {locs : List Loc} {cells slots : Nat} {P : State → Outcome → Prop} {g : JFrame} {rest : List Value} {Q : Option Value → Heap → List Loc → Prop} {kc ks c' s' n0 : Nat} {r : Option Value} {h1 : Heap}
theorem own_cpsS (H : ∃ (v : Option Value) (vm₁ : Vm) (B : Pt), s.WarmedH vm₁ ∧ Stand p l e R s m args below meth c B.U B.locs B.cells B.slots ∧ (∃ L, Q v B.U.heap L ∧ B.locs = locs ++ L ∧ B.cells = cells + kc ∧ B.slots = slots + ks) ∧ ∀ target, Steps p.tables e below (B.U.setTop { g with pc := g.pc + 3, stack := v.toList ++ rest }) target → Steps p.tables e below (T.setTop g) target)
    (hc : cells + kc = c') (hs : slots + ks = s') (N : Fr n0 locs) (hk : ∀ (v : Option Value) (T' : State) (L locs' : List Loc), Q v T'.heap L → (Fr n0 L → Fr n0 locs') → Stand p l e R s m args below meth c T' locs' c' s' → OGo p e below P (T'.setTop { g with pc := g.pc + 3, stack := v.toList ++ rest })) : OGo p e below P (T.setTop g) := by
  obtain ⟨v, vm₁, B, -, X, ⟨L, hQ, e1, e2, e3⟩, st⟩ := H
  refine OGo.by st ?_
  rw [e1, e2, e3, hc, hs] at X
  exact hk v B.U L _ hQ (Fr.app N) X
theorem own_cpsP (H : ∃ (v : Option Value) (vm₁ : Vm) (B : Pt), s.WarmedH vm₁ ∧ Stand p l e R s m args below meth c B.U B.locs B.cells B.slots ∧ (∃ L, Q v B.U.heap L ∧ B.locs = locs ++ L ∧ B.cells = cells + kc ∧ B.slots = slots + ks) ∧ ∀ target, Steps p.tables e below (B.U.setTop { g with pc := g.pc + 3, stack := v.toList ++ rest }) target → Steps p.tables e below (T.setTop g) target)
    (hc : cells + kc = c') (hs : slots + ks = s') (N : Fr n0 locs) (hQ : ∀ v h L, Q v h L → v = r ∧ Fr n0 L ∧ h = h1) (hk : ∀ (T' : State) (locs' : List Loc), Stand p l e R s m args below meth c T' locs' c' s' → Fr n0 locs' → T'.heap = h1 → OGo p e below P (T'.setTop { g with pc := g.pc + 3, stack := r.toList ++ rest })) : OGo p e below P (T.setTop g) :=
  own_cpsS H hc hs N fun v T' L locs' q f X => by
    obtain ⟨rfl, a, b⟩ := hQ _ _ _ q
    exact hk T' locs' X (f a) b
theorem own_cpsOf {s₀ : State} (H : ∃ (v : Option Value) (vm₁ : Vm) (B : Pt), s.WarmedH vm₁ ∧ Stand p l e R s m args below meth c B.U B.locs B.cells B.slots ∧ (∃ L, Q v B.U.heap L ∧ B.locs = locs ++ L ∧ B.cells = cells + kc ∧ B.slots = slots + ks) ∧ Steps p.tables e below s₀ (B.U.setTop { g with pc := g.pc + 3, stack := v.toList ++ rest })) :
    ∃ (v : Option Value) (vm₁ : Vm) (B : Pt), s.WarmedH vm₁ ∧ Stand p l e R s m args below meth c B.U B.locs B.cells B.slots ∧ (∃ L, Q v B.U.heap L ∧ B.locs = locs ++ L ∧ B.cells = cells + kc ∧ B.slots = slots + ks) ∧ ∀ target, Steps p.tables e below (B.U.setTop { g with pc := g.pc + 3, stack := v.toList ++ rest }) target → Steps p.tables e below s₀ target := by
  obtain ⟨v, vm₁, B, a, b, d, st⟩ := H
  exact ⟨v, vm₁, B, a, b, d, fun _ k => st.trans k⟩
theorem own_cpsW {Z : State} {own : String} {vm0 : Vm} {k0 : Nat} (H : ∃ (v : Option Value) (vm₁ : Vm) (B : Pt), (s.setVm vm0).WarmedH vm₁ ∧ Stand p l e R ((s.setVm vm0).setVm B.U.vm) m args below meth c B.U B.locs B.cells B.slots ∧ (s.setVm vm0).Since B.U.vm B.U.heap.size ∧ T.heap.size ≤ B.U.heap.size ∧ (∃ L, Q v B.U.heap L ∧ B.locs = locs ++ L ∧ B.cells = cells + kc ∧ B.slots = slots + ks) ∧ Steps p.tables e below (T.setTop g) (B.U.setTop { g with pc := g.pc + 3, stack := v.toList ++ rest }))
    (hc : cells + kc = c') (hs : slots + ks = s') (N : Fr n0 locs) (hS : s.Since vm0 k0) (hk0 : k0 ≤ T.heap.size) (hZ : Z.Warmed39 (s.setVm vm0).vm) (hown : (s.setVm vm0).vm.findClass own = some m.cls)
    (hk : ∀ (v : Option Value) (T' : State) (L locs' : List Loc), Q v T'.heap L → (Fr n0 L → Fr n0 locs') → Stand p l e R (s.setVm T'.vm) m args below meth c T' locs' c' s' → s.Since T'.vm T'.heap.size → Z.Warmed39 (s.setVm T'.vm).vm → (s.setVm T'.vm).vm.findClass own = some m.cls → OGo p e below P (T'.setTop { g with pc := g.pc + 3, stack := v.toList ++ rest })) : OGo p e below P (T.setTop g) := by
  obtain ⟨v, vm₁, B, -, X, h1, h2, ⟨L, hQ, e1, e2, e3⟩, st⟩ := H
  refine OGo.of st ?_
  rw [e1, e2, e3, hc, hs] at X
  obtain ⟨Y, hS', hZ', ho'⟩ := rebS hS hk0 X h1 h2 hZ hown
  exact hk v B.U L _ hQ (Fr.app N) Y hS' hZ' ho'
end Cps
theorem own_getD (R : List Int32) (i : Nat) : (R.map Value.int).getD i (.int (0 : Int32)) = .int (R.getD i 0) := by
  simp only [List.getD_eq_getElem?_getD, List.getElem?_map]
  cases R[i]? <;> rfl
def own_U : List Int32 := [0, 1, 2, 3]
theorem own_tn {i : Nat} (h : i < 100) : (Int32.ofNat i).toNatClampNeg = i := by
  have e : (Int32.ofNat i).toInt = i := Int32.toInt_ofNat_small (by omega)
  simp only [Int32.toNatClampNeg]; omega
theorem own_ofn {i : Nat} (h : i < 100) : ¬ Int32.ofNat i < 0 := by
  have e : (Int32.ofNat i).toInt = i := Int32.toInt_ofNat_small (by omega)
  rw [Int32.lt_iff_toInt_lt, e]
  have e0 : (0 : Int32).toInt = 0 := rfl
  omega
theorem own_olt {i n : Nat} (h : i < n) (hn : n < 100) : Int32.ofNat i < Int32.ofNat n := by
  rw [Int32.lt_iff_toInt_lt, Int32.toInt_ofNat_small (by omega), Int32.toInt_ofNat_small (by omega)]; omega
theorem own_nlt {i n : Nat} (h : ¬ i < n) (hi : i < 100) (hn : n < 100) : ¬ Int32.ofNat i < Int32.ofNat n := by
  rw [Int32.lt_iff_toInt_lt, Int32.toInt_ofNat_small (by omega), Int32.toInt_ofNat_small (by omega)]; omega
theorem own_up1 (i : Nat) : (Int32.ofNat i + (1 : Int32)) = Int32.ofNat (i + 1) := by rw [Int32.ofNat_add]; rfl
theorem own_m1 (x : Int32) : x * (1 : Int32) + (0 : Int32) = x := by rw [Int32.mul_one, Int32.add_zero]
theorem own_Uat {i : Nat} (h : i < 4) : own_U.getD i 0 = Int32.ofNat i := by
  match i, h with
  | 0, _ => rfl
  | 1, _ => rfl
  | 2, _ => rfl
  | 3, _ => rfl
def own_cfg (M capN : Nat) (Ml sh capI : Int32) : Prop := ((M = 8 ∧ Ml = 8 ∧ sh = 61) ∨ (M = 16 ∧ Ml = 16 ∧ sh = 60)) ∧ 4 ≤ capN ∧ capN ≤ 7 ∧ capI = Int32.ofNat capN
def own_H (sh key : Int32) : Int32 := ((((0 : Int64) ^^^ key.toInt64) * (-7046029254386353131 : Int64)).toUInt64 >>> (sh &&& 0x3f).toInt64.toUInt64).toInt64.toInt32
def own_h (sh key : Int32) : Nat := (own_H sh key).toNatClampNeg
theorem own_sh (x : UInt64) (k : Nat) (hk : 0 < k) (hk' : k ≤ 4) : ∃ n, n < 2 ^ k ∧ (x >>> (UInt64.ofNat (64 - k))).toInt64.toInt32 = Int32.ofNat n := by
  have h1 : (x >>> (UInt64.ofNat (64 - k))).toNat < 2 ^ k := by
    rw [UInt64.toNat_shiftRight, Nat.shiftRight_eq_div_pow]
    have e : (UInt64.ofNat (64 - k)).toNat % 64 = 64 - k := by
      rw [UInt64.toNat_ofNat_of_lt' (by show 64 - k < 2 ^ 64; omega)]; omega
    rw [e]
    have hx := x.toNat_lt
    apply Nat.div_lt_of_lt_mul
    rw [← Nat.pow_add]
    have : 64 - k + k = 64 := by omega
    rw [this]; exact hx
  refine ⟨(x >>> (UInt64.ofNat (64 - k))).toNat, h1, ?_⟩
  generalize x >>> (UInt64.ofNat (64 - k)) = y at *
  have e : y = UInt64.ofNat y.toNat := UInt64.ofNat_toNat.symm
  have h2 : y.toNat < 16 := Nat.lt_of_lt_of_le h1 (by
    have : k = 1 ∨ k = 2 ∨ k = 3 ∨ k = 4 := by omega
    rcases this with rfl | rfl | rfl | rfl <;> decide)
  have t : ∀ n : Fin 16, (UInt64.ofNat n.val).toInt64.toInt32 = Int32.ofNat n.val := by decide +kernel
  have q := t ⟨y.toNat, h2⟩
  rw [← e] at q; exact q
theorem own_hash {M capN : Nat} {Ml sh capI : Int32} (h : own_cfg M capN Ml sh capI) (key : Int32) : own_H sh key = Int32.ofNat (own_h sh key) ∧ own_h sh key < M := by
  obtain ⟨h, -⟩ := h
  have key' : ∃ n, n < M ∧ own_H sh key = Int32.ofNat n := by
    rcases h with ⟨rfl, rfl, rfl⟩ | ⟨rfl, rfl, rfl⟩
    · exact own_sh _ 3 (by decide) (by decide)
    · exact own_sh _ 4 (by decide) (by decide)
  obtain ⟨n, h1, h2⟩ := key'
  have h3 : M ≤ 16 := by rcases h with ⟨rfl, -⟩ | ⟨rfl, -⟩ <;> decide
  unfold own_h
  rw [h2, own_tn (by omega)]
  exact ⟨rfl, h1⟩
theorem own_next {M capN : Nat} {Ml sh capI : Int32} (h : own_cfg M capN Ml sh capI) {j : Nat} (hj : j < M) : ((Int32.ofNat j + (1 : Int32)) &&& (Ml - (1 : Int32))) = Int32.ofNat ((j + 1) % M) := by
  obtain ⟨h, -⟩ := h
  rcases h with ⟨rfl, rfl, rfl⟩ | ⟨rfl, rfl, rfl⟩
  · exact (by decide +kernel : ∀ j : Fin 8, ((Int32.ofNat j.val + (1 : Int32)) &&& ((8 : Int32) - (1 : Int32))) = Int32.ofNat ((j.val + 1) % 8)) ⟨j, hj⟩
  · exact (by decide +kernel : ∀ j : Fin 16, ((Int32.ofNat j.val + (1 : Int32)) &&& ((16 : Int32) - (1 : Int32))) = Int32.ofNat ((j.val + 1) % 16)) ⟨j, hj⟩
theorem own_cM {M capN : Nat} {Ml sh capI : Int32} (h : own_cfg M capN Ml sh capI) : (M = 8 ∨ M = 16) ∧ Ml = Int32.ofNat M ∧ 4 ≤ capN ∧ capN ≤ 7 ∧ capI = Int32.ofNat capN := by
  obtain ⟨h, h2, h3, h4⟩ := h
  rcases h with ⟨rfl, rfl, rfl⟩ | ⟨rfl, rfl, rfl⟩
  · exact ⟨Or.inl rfl, rfl, h2, h3, h4⟩
  · exact ⟨Or.inr rfl, rfl, h2, h3, h4⟩
theorem own_inM {M capN : Nat} {Ml sh capI : Int32} (h : own_cfg M capN Ml sh capI) {j : Nat} (hj : j < M) : ¬ Int32.ofNat j < 0 ∧ Int32.ofNat j < Ml := by
  obtain ⟨h1, h2, -⟩ := own_cM h
  rw [h2]; exact ⟨own_ofn (by omega), own_olt hj (by omega)⟩
theorem own_inC {M capN : Nat} {Ml sh capI : Int32} (h : own_cfg M capN Ml sh capI) {j : Nat} (hj : j < 4) : ¬ Int32.ofNat j < 0 ∧ Int32.ofNat j < capI := by
  obtain ⟨h1, h2, h3, h4, h5⟩ := own_cM h
  rw [h5]; exact ⟨own_ofn (by omega), own_olt (by omega) (by omega)⟩
theorem own_in4 {j : Nat} (hj : j < 4) : ¬ Int32.ofNat j < 0 ∧ Int32.ofNat j < (4 : Int32) := ⟨own_ofn (by omega), own_olt (n := 4) hj (by omega)⟩
/-- the keys -/
def own_K (R1 R2 : List Int32) (i : Nat) : Int32 := R2.getD (R1.getD i 0).toNatClampNeg 0
def own_V (R1 : List Int32) : Prop := R1.length = 4 ∧ ∀ i, i < 4 → ¬ R1.getD i 0 < 0 ∧ R1.getD i 0 < (4 : Int32)
def own_stop (G : List Int32) (K : Nat → Int32) (kk : Int32) (j : Nat) : Prop := G.getD j 0 < 0 ∨ kk = K (G.getD j 0).toNatClampNeg
instance (G : List Int32) (K : Nat → Int32) (kk : Int32) (j : Nat) : Decidable (own_stop G K kk j) := inferInstanceAs (Decidable (_ ∨ _))
def own_pr (G : List Int32) (K : Nat → Int32) (kk : Int32) (M : Nat) : Nat → Nat → Nat
  | 0, j => j
  | n + 1, j => if own_stop G K kk j then j else own_pr G K kk M n ((j + 1) % M)
def own_fin (G : List Int32) (K : Nat → Int32) (kk : Int32) (M : Nat) : Nat → Nat → Prop
  | 0, j => own_stop G K kk j
  | n + 1, j => own_stop G K kk j ∨ own_fin G K kk M n ((j + 1) % M)
theorem own_pr_stop {G : List Int32} {K : Nat → Int32} {kk : Int32} {M n j : Nat} (h : own_stop G K kk j) : own_pr G K kk M n j = j := by
  cases n with
  | zero => rfl
  | succ n => rw [own_pr, if_pos h]
theorem own_pr_go {G : List Int32} {K : Nat → Int32} {kk : Int32} {M n j : Nat} (h : ¬ own_stop G K kk j) (hf : own_fin G K kk M n j) : ∃ n', n = n' + 1 ∧ own_fin G K kk M n' ((j + 1) % M) ∧ own_pr G K kk M n j = own_pr G K kk M n' ((j + 1) % M) := by
  cases n with
  | zero => exact absurd hf h
  | succ n => exact ⟨n, rfl, hf.resolve_left h, by rw [own_pr, if_neg h]⟩
theorem own_modS {j m M : Nat} (hM : 0 < M) : ((j + 1) % M + m) % M = (j + (m + 1)) % M := by
  rw [Nat.mod_add_mod]; congr 1; omega
theorem own_fin_of {G : List Int32} {K : Nat → Int32} {kk : Int32} {M : Nat} (hM : 0 < M) : ∀ (n j : Nat), j < M → (∃ m, m ≤ n ∧ own_stop G K kk ((j + m) % M)) → own_fin G K kk M n j := by
  intro n
  induction n with
  | zero =>
    intro j hj ⟨m, h1, h2⟩
    obtain rfl : m = 0 := by omega
    rw [Nat.add_zero, Nat.mod_eq_of_lt hj] at h2
    exact h2
  | succ n ih =>
    intro j hj ⟨m, h1, h2⟩
    cases m with
    | zero => rw [Nat.add_zero, Nat.mod_eq_of_lt hj] at h2; exact Or.inl h2
    | succ m => exact Or.inr (ih _ (Nat.mod_lt _ hM) ⟨m, by omega, by rw [own_modS hM]; exact h2⟩)
theorem own_pr_spec {G : List Int32} {K : Nat → Int32} {kk : Int32} {M : Nat} (hM : 0 < M) : ∀ (n j : Nat), j < M → own_fin G K kk M n j → ∃ m, m ≤ n ∧ own_pr G K kk M n j = (j + m) % M ∧ own_stop G K kk (own_pr G K kk M n j) ∧ ∀ m', m' < m → ¬ own_stop G K kk ((j + m') % M) := by
  intro n
  induction n with
  | zero =>
    intro j hj h
    exact ⟨0, Nat.le_refl _, by rw [own_pr, Nat.add_zero, Nat.mod_eq_of_lt hj], h, fun m' q => absurd q (Nat.not_lt_zero _)⟩
  | succ n ih =>
    intro j hj h
    by_cases hs : own_stop G K kk j
    · rw [own_pr_stop hs]
      exact ⟨0, Nat.zero_le _, by rw [Nat.add_zero, Nat.mod_eq_of_lt hj], hs, fun m' q => absurd q (Nat.not_lt_zero _)⟩
    · obtain ⟨n', e1, e2, e3⟩ := own_pr_go hs h
      cases e1
      obtain ⟨m, h1, h2, h3, h4⟩ := ih _ (Nat.mod_lt _ hM) e2
      rw [e3]
      refine ⟨m + 1, by omega, by rw [h2, own_modS hM], h3, fun m' q => ?_⟩
      cases m' with
      | zero => rw [Nat.add_zero, Nat.mod_eq_of_lt hj]; exact hs
      | succ m' => rw [← own_modS hM]; exact h4 m' (by omega)
def own_fresh (K : Nat → Int32) (p : Nat) : Bool := (List.range p).all fun i => decide (K i ≠ K p)
theorem own_fresh_t {K : Nat → Int32} {p : Nat} (h : own_fresh K p = true) {i : Nat} (hi : i < p) : K i ≠ K p := by
  unfold own_fresh at h
  rw [List.all_eq_true] at h
  exact of_decide_eq_true (h i (List.mem_range.mpr hi))
theorem own_fresh_of {K : Nat → Int32} {p : Nat} (h : ∀ i, i < p → K i ≠ K p) : own_fresh K p = true := by
  unfold own_fresh
  rw [List.all_eq_true]
  intro i hi; exact decide_eq_true (h i (List.mem_range.mp hi))
theorem own_fresh_f {K : Nat → Int32} {p i : Nat} (hi : i < p) (h : K i = K p) : own_fresh K p = false := by
  cases e : own_fresh K p with
  | false => rfl
  | true => exact absurd h (own_fresh_t e hi)
def own_last (K : Nat → Int32) : Nat → Int32 → Nat
  | 0, _ => 0
  | p + 1, k => if K p = k then p else own_last K p k
def own_cnt (K : Nat → Int32) : Nat → Nat
  | 0 => 0
  | p + 1 => if own_fresh K p = true then own_cnt K p + 1 else own_cnt K p
def own_ldr (K : Nat → Int32) : Nat → Nat → Nat
  | 0, _ => 0
  | p + 1, q => if own_fresh K p = true ∧ q = own_cnt K p then p else own_ldr K p q
theorem own_last_spec (K : Nat → Int32) : ∀ (p i : Nat), i < p → own_last K p (K i) < p ∧ K (own_last K p (K i)) = K i := by
  intro p
  induction p with
  | zero => intro i h; omega
  | succ p ih =>
    intro i h
    unfold own_last
    by_cases q : K p = K i
    · rw [if_pos q]; exact ⟨by omega, q⟩
    · rw [if_neg q]
      have : i ≠ p := fun e => q (by rw [e])
      obtain ⟨a, b⟩ := ih i (by omega)
      exact ⟨by omega, b⟩
theorem own_cnt_le (K : Nat → Int32) : ∀ p, own_cnt K p ≤ p := by
  intro p
  induction p with
  | zero => exact Nat.le_refl _
  | succ p ih => unfold own_cnt; split <;> omega
theorem own_ldr_lt (K : Nat → Int32) : ∀ p q, q < own_cnt K p → own_ldr K p q < p := by
  intro p
  induction p with
  | zero => intro q h; exact absurd h (Nat.not_lt_zero _)
  | succ p ih =>
    intro q h
    unfold own_ldr
    unfold own_cnt at h
    split
    · omega
    · next z =>
      have : q < own_cnt K p := by
        split at h
        · next y => 
          have : q ≠ own_cnt K p := fun e => z ⟨y, e⟩
          omega
        · exact h
      have := ih q this
      omega
/-- what stands after the first p positions -/
def own_Inv (K : Nat → Int32) (H : Int32 → Nat) (M capN p : Nat) (G S : List Int32) (nb : Nat) : Prop :=
  G.length = M ∧ S.length = capN ∧ nb = own_cnt K p ∧ ∃ sl : Nat → Nat, (∀ i, i < p → sl i < M) ∧ (∀ i, i < p → ∀ i', i' < p → (sl i = sl i' ↔ K i = K i')) ∧
    (∀ j, j < M → (∀ i, i < p → sl i ≠ j) → G.getD j 0 = -1) ∧ (∀ i, i < p → G.getD (sl i) 0 = Int32.ofNat (own_last K p (K i))) ∧
    (∀ i, i < p → ∃ n, n ≤ 3 ∧ sl i = (H (K i) + n) % M ∧ ∀ m, m < n → ∃ i', i' < p ∧ sl i' = (H (K i) + m) % M ∧ K i' ≠ K i) ∧
    (∀ q, q < nb → S.getD q 0 = Int32.ofNat (sl (own_ldr K p q)))
theorem own_pig {p h : Nat} (hp : p ≤ 3) (sl : Nat → Nat) {M : Nat} (hM : M = 8 ∨ M = 16) : ∃ m, m ≤ 3 ∧ ∀ i, i < p → sl i ≠ (h + m) % M := by
  have key : ∃ m, m ≤ 3 ∧ sl 0 ≠ (h + m) % M ∧ sl 1 ≠ (h + m) % M ∧ sl 2 ≠ (h + m) % M := by
    generalize sl 0 = a
    generalize sl 1 = b
    generalize sl 2 = c
    by_cases h0 : a ≠ (h + 0) % M ∧ b ≠ (h + 0) % M ∧ c ≠ (h + 0) % M
    · exact ⟨0, by omega, h0⟩
    by_cases h1 : a ≠ (h + 1) % M ∧ b ≠ (h + 1) % M ∧ c ≠ (h + 1) % M
    · exact ⟨1, by omega, h1⟩
    by_cases h2 : a ≠ (h + 2) % M ∧ b ≠ (h + 2) % M ∧ c ≠ (h + 2) % M
    · exact ⟨2, by omega, h2⟩
    refine ⟨3, by omega, ?_⟩
    rcases hM with rfl | rfl <;> omega
  obtain ⟨m, h1, h2, h3, h4⟩ := key
  refine ⟨m, h1, fun i hi => ?_⟩
  match i, (by omega : i < 3) with
  | 0, _ => exact h2
  | 1, _ => exact h3
  | 2, _ => exact h4
theorem own_Inv_fin {K : Nat → Int32} {H : Int32 → Nat} {M capN p : Nat} {G S : List Int32} {nb : Nat} (I : own_Inv K H M capN p G S nb) (hp : p ≤ 3) (hM : M = 8 ∨ M = 16) (hH : ∀ k, H k < M) : own_fin G K (K p) M 3 (H (K p)) := by
  obtain ⟨l1, l2, c0, sl, b1, b2, b3, b4, b5, b6⟩ := I
  have M0 : 0 < M := by omega
  refine own_fin_of M0 3 _ (hH _) ?_
  by_cases hf : own_fresh K p = true
  · obtain ⟨m, h1, h2⟩ := own_pig (h := H (K p)) hp sl hM
    refine ⟨m, h1, Or.inl ?_⟩
    rw [b3 _ (Nat.mod_lt _ M0) h2]; decide
  · have : ∃ i, i < p ∧ K i = K p := by
      apply Classical.byContradiction
      intro q
      exact hf (own_fresh_of fun i hi e => q ⟨i, hi, e⟩)
    obtain ⟨i, hi, e⟩ := this
    obtain ⟨n, h1, h2, -⟩ := b5 i hi
    refine ⟨n, h1, Or.inr ?_⟩
    rw [← e, ← h2, b4 i hi]
    obtain ⟨a, b⟩ := own_last_spec K p i hi
    rw [own_tn (by omega)]; exact b.symm
theorem own_Inv_val {K : Nat → Int32} {H : Int32 → Nat} {M capN p : Nat} {G S : List Int32} {nb : Nat} (I : own_Inv K H M capN p G S nb) (hp : p ≤ 4) {j : Nat} (hj : j < M) : G.getD j 0 = -1 ∨ ∃ i, i < p ∧ G.getD j 0 = Int32.ofNat i := by
  obtain ⟨l1, l2, c0, sl, b1, b2, b3, b4, b5, b6⟩ := I
  by_cases h : ∃ i, i < p ∧ sl i = j
  · obtain ⟨i, hi, rfl⟩ := h
    exact Or.inr ⟨_, (own_last_spec K p i hi).1, b4 i hi⟩
  · exact Or.inl (b3 j hj fun i hi e => h ⟨i, hi, e⟩)
theorem own_getset (G : List Int32) (j i : Nat) (v d : Int32) (hj : j < G.length) : (G.set j v).getD i d = if j = i then v else G.getD i d := by
  simp only [List.getD_eq_getElem?_getD, List.getElem?_set]
  by_cases h : j = i
  · subst h; simp [hj]
  · simp [h]
/-- one position more -/
theorem own_Inv_step {K : Nat → Int32} {H : Int32 → Nat} {M capN p : Nat} {G S : List Int32} {nb R : Nat} (I : own_Inv K H M capN p G S nb) (hp : p ≤ 3) (hM : M = 8 ∨ M = 16) (hc : 4 ≤ capN) (hH : ∀ k, H k < M) (hR : own_pr G K (K p) M 3 (H (K p)) = R) :
    (G.getD R 0 < 0 → own_Inv K H M capN (p + 1) (G.set R (Int32.ofNat p)) (S.set nb (Int32.ofNat R)) (nb + 1)) ∧ (¬ G.getD R 0 < 0 → own_Inv K H M capN (p + 1) (G.set R (Int32.ofNat p)) S nb) := by
  have hfin := own_Inv_fin I hp hM hH
  have M0 : 0 < M := by omega
  obtain ⟨m, hm1, hm2, hm3, hm4⟩ := own_pr_spec M0 3 _ (hH _) hfin
  rw [hR] at hm2 hm3
  have hRM : R < M := by rw [hm2]; exact Nat.mod_lt _ M0
  have I0 := I
  obtain ⟨l1, l2, c0, sl, b1, b2, b3, b4, b5, b6⟩ := I
  have hst : ∀ i, i < p → K i = K p → own_stop G K (K p) (sl i) := fun i hi e => Or.inr (by
    rw [b4 i hi, own_tn (by have := (own_last_spec K p i hi).1; omega), (own_last_spec K p i hi).2, e])
  have hocc : ∀ i, i < p → ¬ G.getD (sl i) 0 < 0 := fun i hi => by
    rw [b4 i hi]; exact own_ofn (by have := (own_last_spec K p i hi).1; omega)
  have hnb : nb ≤ 3 := by rw [c0]; exact Nat.le_trans (own_cnt_le K p) hp
  -- the new slot function
  let sl' : Nat → Nat := fun i => if i = p then R else sl i
  have s0 : sl' p = R := if_pos rfl
  have s1 : ∀ i, i < p → sl' i = sl i := fun i hi => if_neg (by omega)
  -- the slot's own story: whoever shares the key shares the slot
  have same : ∀ i, i < p → (sl i = R ↔ K i = K p) := by
    intro i hi
    constructor
    · intro e
      have h1 := hm3
      rw [← e] at h1
      rcases h1 with h1 | h1
      · exact absurd h1 (hocc i hi)
      · rw [b4 i hi, own_tn (by have := (own_last_spec K p i hi).1; omega), (own_last_spec K p i hi).2] at h1
        exact h1.symm
    · intro e
      obtain ⟨n, h1, h2, h3⟩ := b5 i hi
      rw [e] at h2 h3
      have : m = n := by
        rcases Nat.lt_trichotomy m n with h | h | h
        · exfalso
          obtain ⟨i', x1, x2, x3⟩ := h3 m h
          rw [← hm2] at x2
          have h1 := hm3
          rw [← x2] at h1
          rcases h1 with h1 | h1
          · exact hocc i' x1 h1
          · rw [b4 i' x1, own_tn (by have := (own_last_spec K p i' x1).1; omega), (own_last_spec K p i' x1).2] at h1
            exact x3 h1.symm
        · exact h
        · exfalso
          refine hm4 n h ?_
          rw [← h2]; exact hst i hi e
      rw [h2, hm2, this]
  have gs : ∀ i, (G.set R (Int32.ofNat p)).getD i 0 = if R = i then Int32.ofNat p else G.getD i 0 := fun i => own_getset G R i _ 0 (by rw [l1]; exact hRM)
  have core : ∀ (S' : List Int32) (nb' : Nat), S'.length = capN → nb' = own_cnt K (p + 1) → (∀ q, q < nb' → S'.getD q 0 = Int32.ofNat (sl' (own_ldr K (p + 1) q))) → own_Inv K H M capN (p + 1) (G.set R (Int32.ofNat p)) S' nb' := by
    intro S' nb' hl hn hq
    refine ⟨by rw [List.length_set]; exact l1, hl, hn, sl', ?_, ?_, ?_, ?_, ?_, hq⟩
    · intro i hi
      by_cases e : i = p
      · rw [e, s0]; exact hRM
      · rw [s1 i (by omega)]; exact b1 i (by omega)
    · intro i hi i' hi'
      by_cases e : i = p
      · by_cases e' : i' = p
        · rw [e, e']; exact ⟨fun _ => rfl, fun _ => rfl⟩
        · rw [e, s0, s1 i' (by omega)]
          have z := same i' (by omega)
          exact ⟨fun q => (z.mp q.symm).symm, fun q => (z.mpr q.symm).symm⟩
      · by_cases e' : i' = p
        · rw [e', s0, s1 i (by omega)]; exact same i (by omega)
        · rw [s1 i (by omega), s1 i' (by omega)]; exact b2 i (by omega) i' (by omega)
    · intro j hj h
      have hr : R ≠ j := fun e => h p (by omega) (by rw [s0]; exact e)
      rw [gs, if_neg hr]
      exact b3 j hj fun i hi => by have := h i (by omega); rwa [s1 i hi] at this
    · intro i hi
      rw [gs]
      unfold own_last
      by_cases e : i = p
      · rw [e, s0, if_pos rfl, if_pos rfl]
      · have hi' : i < p := by omega
        rw [s1 i hi']
        have z := same i hi'
        by_cases k : K i = K p
        · rw [if_pos (z.mpr k).symm, if_pos k.symm]
        · rw [if_neg (fun q => k (z.mp q.symm)), if_neg (fun q => k q.symm)]; exact b4 i hi'
    · intro i hi
      by_cases e : i = p
      · rw [e, s0]
        refine ⟨m, hm1, hm2, fun m' hm' => ?_⟩
        have ns := hm4 m' hm'
        have : ∃ i', i' < p ∧ sl i' = (H (K p) + m') % M := by
          apply Classical.byContradiction
          intro q
          refine ns (Or.inl ?_)
          rw [b3 _ (Nat.mod_lt _ M0) fun i' hi' e' => q ⟨i', hi', e'⟩]; decide
        obtain ⟨i', x1, x2⟩ := this
        refine ⟨i', by omega, by rw [s1 i' x1]; exact x2, fun e' => ns ?_⟩
        rw [← x2]; exact hst i' x1 e'
      · obtain ⟨n, h1, h2, h3⟩ := b5 i (by omega)
        refine ⟨n, h1, by rw [s1 i (by omega)]; exact h2, fun m' hm' => ?_⟩
        obtain ⟨i', x1, x2, x3⟩ := h3 m' hm'
        exact ⟨i', by omega, by rw [s1 i' x1]; exact x2, x3⟩
  constructor
  · intro hneg
    have fr : own_fresh K p = true := own_fresh_of fun i hi e => hocc i hi (by rw [(same i hi).mpr e]; exact hneg)
    refine core _ _ (by rw [List.length_set]; exact l2) (by rw [own_cnt, if_pos fr, c0]) fun q hq => ?_
    rw [own_getset S nb q _ 0 (by omega), own_ldr]
    by_cases e : nb = q
    · rw [if_pos e, if_pos ⟨fr, by rw [← c0]; exact e.symm⟩, s0]
    · have hq' : q < nb := by omega
      rw [if_neg e, if_neg (fun z => e (by rw [c0]; exact z.2.symm)), s1 _ (own_ldr_lt K p q (by rw [← c0]; exact hq'))]
      exact b6 q hq'
  · intro hpos
    have : ∃ i, i < p ∧ sl i = R := by
      apply Classical.byContradiction
      intro q
      refine hpos ?_
      rw [b3 R hRM fun i hi e => q ⟨i, hi, e⟩]; decide
    obtain ⟨i, hi, e⟩ := this
    have fr : own_fresh K p = false := own_fresh_f hi ((same i hi).mp e)
    refine core _ _ l2 (by rw [own_cnt, fr, if_neg (by decide), c0]) fun q hq => ?_
    rw [own_ldr, fr, if_neg (fun z => absurd z.1 (by decide)), s1 _ (own_ldr_lt K p q (by rw [← c0]; exact hq))]
    exact b6 q hq
/-- what the clearing loop finds -/
def own_Old (M capN nb i : Nat) (G S : List Int32) : Prop := G.length = M ∧ S.length = capN ∧ nb ≤ 4 ∧ (∀ q, q < nb → ∃ j, j < M ∧ S.getD q 0 = Int32.ofNat j) ∧ ∀ j, j < M → G.getD j 0 ≠ -1 → ∃ q, i ≤ q ∧ q < nb ∧ S.getD q 0 = Int32.ofNat j
theorem own_Inv_old {K : Nat → Int32} {H : Int32 → Nat} {M capN p : Nat} {G S : List Int32} {nb : Nat} (I : own_Inv K H M capN p G S nb) (hp : p ≤ 4) (hfst : ∀ i, i < p → ∃ q, q < own_cnt K p ∧ K (own_ldr K p q) = K i) : own_Old M capN nb 0 G S := by
  obtain ⟨l1, l2, c0, sl, b1, b2, b3, b4, b5, b6⟩ := I
  refine ⟨l1, l2, by rw [c0]; exact Nat.le_trans (own_cnt_le K p) hp, fun q hq => ?_, fun j hj h => ?_⟩
  · exact ⟨sl (own_ldr K p q), b1 _ (own_ldr_lt K p q (by rw [← c0]; exact hq)), b6 q hq⟩
  · have : ∃ i, i < p ∧ sl i = j := by
      apply Classical.byContradiction
      intro z
      exact h (b3 j hj fun i hi e => z ⟨i, hi, e⟩)
    obtain ⟨i, hi, rfl⟩ := this
    obtain ⟨q, h1, h2⟩ := hfst i hi
    refine ⟨q, Nat.zero_le _, by rw [c0]; exact h1, ?_⟩
    rw [b6 q (by rw [c0]; exact h1), (b2 _ (own_ldr_lt K p q h1) i hi).mpr h2]
theorem own_ldr_hit (K : Nat → Int32) : ∀ p i, i < p → ∃ q, q < own_cnt K p ∧ K (own_ldr K p q) = K i := by
  intro p
  induction p with
  | zero => intro i h; omega
  | succ p ih =>
    intro i hi
    by_cases fr : own_fresh K p = true
    · by_cases e : i = p
      · refine ⟨own_cnt K p, by rw [own_cnt, if_pos fr]; omega, ?_⟩
        rw [own_ldr, if_pos ⟨fr, rfl⟩, e]
      · obtain ⟨q, h1, h2⟩ := ih i (by omega)
        refine ⟨q, by rw [own_cnt, if_pos fr]; omega, ?_⟩
        rw [own_ldr, if_neg (fun z => by omega)]; exact h2
    · have : ∃ i', i' < p ∧ K i' = K i := by
        by_cases e : i = p
        · apply Classical.byContradiction
          intro z
          exact fr (own_fresh_of fun i' hi' e' => z ⟨i', hi', by rw [e', e]⟩)
        · exact ⟨i, by omega, rfl⟩
      obtain ⟨i', h0, h0'⟩ := this
      obtain ⟨q, h1, h2⟩ := ih i' h0
      refine ⟨q, by rw [own_cnt, if_neg fr]; exact h1, ?_⟩
      rw [own_ldr, if_neg (fun z => fr z.1), h2, h0']
theorem own_Old_start {M capN : Nat} : own_Old M capN 0 0 (List.replicate M (-1)) (List.replicate capN 0) := by
  refine ⟨List.length_replicate, List.length_replicate, by omega, fun q hq => absurd hq (Nat.not_lt_zero _), fun j hj h => absurd ?_ h⟩
  simp [List.getD_eq_getElem?_getD, hj]
theorem own_Old_step {M capN nb i : Nat} {G S : List Int32} (O : own_Old M capN nb i G S) (hM : M ≤ 16) (hi : i < nb) : ∃ j, j < M ∧ S.getD i 0 = Int32.ofNat j ∧ own_Old M capN nb (i + 1) (G.set j (-1)) S := by
  obtain ⟨l1, l2, c0, h1, h2⟩ := O
  obtain ⟨j, a, b⟩ := h1 i hi
  refine ⟨j, a, b, by rw [List.length_set]; exact l1, l2, c0, h1, fun j' hj' h => ?_⟩
  rw [own_getset G j j' _ 0 (by rw [l1]; exact a)] at h
  by_cases e : j = j'
  · rw [if_pos e] at h; exact absurd rfl h
  · rw [if_neg e] at h
    obtain ⟨q, x1, x2, x3⟩ := h2 j' hj' h
    refine ⟨q, ?_, x2, x3⟩
    have : q ≠ i := fun z => e (by
      rw [z, b] at x3
      have := congrArg Int32.toNatClampNeg x3
      rwa [own_tn (by omega), own_tn (by omega)] at this)
    omega
theorem own_Old_Inv {K : Nat → Int32} {H : Int32 → Nat} {M capN nb : Nat} {G S : List Int32} (O : own_Old M capN nb nb G S) : own_Inv K H M capN 0 G S 0 := by
  obtain ⟨l1, l2, c0, h1, h2⟩ := O
  refine ⟨l1, l2, rfl, fun _ => 0, fun i h => absurd h (Nat.not_lt_zero _), fun i h => absurd h (Nat.not_lt_zero _), fun j hj _ => ?_, fun i h => absurd h (Nat.not_lt_zero _), fun i h => absurd h (Nat.not_lt_zero _), fun i h => absurd h (Nat.not_lt_zero _)⟩
  apply Classical.byContradiction
  intro z
  obtain ⟨q, x1, x2, -⟩ := h2 j hj z
  omega
theorem own_Inv_first {K : Nat → Int32} {H : Int32 → Nat} {M capN p : Nat} {G S : List Int32} {nb : Nat} (I : own_Inv K H M capN p G S nb) (hp : p ≤ 4) (hM : M ≤ 16) {q : Nat} (hq : q < nb) : (∃ j, j < M ∧ S.getD q 0 = Int32.ofNat j) ∧ G.getD (S.getD q 0).toNatClampNeg 0 = Int32.ofNat (own_last K p (K (own_ldr K p q))) := by
  obtain ⟨l1, l2, c0, sl, b1, b2, b3, b4, b5, b6⟩ := I
  have h := own_ldr_lt K p q (by rw [← c0]; exact hq)
  have hb := b1 _ h
  refine ⟨⟨_, hb, b6 q hq⟩, ?_⟩
  rw [b6 q hq, own_tn (by omega)]; exact b4 _ h
theorem own_ogc {p : Program} {e : Env} {below : List Frame} {P : State → Outcome → Prop} {S S' : State} (h : S = S') (g : OGo p e below P S') : OGo p e below P S := h ▸ g
def own_eq (a b : Int32) : Int32 := if a = b then 1 else 0
theorem own_M16 {M capN : Nat} {Ml sh capI : Int32} (h : own_cfg M capN Ml sh capI) : M ≤ 16 := by have := (own_cM h).1; omega
theorem own_Inv_rlt {K : Nat → Int32} {H : Int32 → Nat} {M capN p : Nat} {G S : List Int32} {nb R : Nat} (I : own_Inv K H M capN p G S nb) (hp : p ≤ 3) (hM : M = 8 ∨ M = 16) (hH : ∀ k, H k < M) (hR : own_pr G K (K p) M 3 (H (K p)) = R) : R < M := by
  obtain ⟨m, -, h, -⟩ := own_pr_spec (by omega) 3 _ (hH _) (own_Inv_fin I hp hM hH)
  rw [← hR, h]; exact Nat.mod_lt _ (by omega)
theorem own_Inv_pos {K : Nat → Int32} {H : Int32 → Nat} {M capN p : Nat} {G S : List Int32} {nb : Nat} (I : own_Inv K H M capN p G S nb) (hp : p ≤ 4) {j : Nat} (hj : j < M) (h : ¬ G.getD j 0 < (0 : Int32)) : ∃ i, i < 4 ∧ G.getD j 0 = Int32.ofNat i := by
  rcases own_Inv_val I hp hj with q | ⟨i, q1, q2⟩
  · exact absurd (by rw [q]; decide) h
  · exact ⟨i, by omega, q2⟩
theorem own_Inv_nb {K : Nat → Int32} {H : Int32 → Nat} {M capN p : Nat} {G S : List Int32} {nb : Nat} (I : own_Inv K H M capN p G S nb) (hp : p ≤ 3) : nb ≤ 3 := by rw [I.2.2.1]; exact Nat.le_trans (own_cnt_le K p) hp
theorem d5_0 : decode jdk_33_method_47_code 0 = .ok (.iload_n 0, 1) := by decide +kernel
theorem d5_1 : decode jdk_33_method_47_code 1 = .ok (.ifCond .gt 14, 3) := by decide +kernel
theorem d5_15 : decode jdk_33_method_47_code 15 = .ok (.bipush 31, 2) := by decide +kernel
theorem d5_17 : decode jdk_33_method_47_code 17 = .ok (.istore_n 1, 1) := by decide +kernel
theorem d5_18 : decode jdk_33_method_47_code 18 = .ok (.iload_n 0, 1) := by decide +kernel
theorem d5_19 : decode jdk_33_method_47_code 19 = .ok (.ldc_w 264, 3) := by decide +kernel
theorem d5_22 : decode jdk_33_method_47_code 22 = .ok (.if_icmp .lt 11, 3) := by decide +kernel
theorem d5_33 : decode jdk_33_method_47_code 33 = .ok (.iload_n 0, 1) := by decide +kernel
theorem d5_34 : decode jdk_33_method_47_code 34 = .ok (.sipush 256, 3) := by decide +kernel
theorem d5_37 : decode jdk_33_method_47_code 37 = .ok (.if_icmp .lt 11, 3) := by decide +kernel
theorem d5_48 : decode jdk_33_method_47_code 48 = .ok (.iload_n 0, 1) := by decide +kernel
theorem d5_49 : decode jdk_33_method_47_code 49 = .ok (.bipush 16, 2) := by decide +kernel
theorem d5_51 : decode jdk_33_method_47_code 51 = .ok (.if_icmp .lt 10, 3) := by decide +kernel
theorem d5_61 : decode jdk_33_method_47_code 61 = .ok (.iload_n 0, 1) := by decide +kernel
theorem d5_62 : decode jdk_33_method_47_code 62 = .ok (.iconst 4, 1) := by decide +kernel
theorem d5_63 : decode jdk_33_method_47_code 63 = .ok (.if_icmp .lt 10, 3) := by decide +kernel
theorem d5_66 : decode jdk_33_method_47_code 66 = .ok (.iinc 1 (-2), 3) := by decide +kernel
theorem d5_69 : decode jdk_33_method_47_code 69 = .ok (.iload_n 0, 1) := by decide +kernel
theorem d5_70 : decode jdk_33_method_47_code 70 = .ok (.iconst 2, 1) := by decide +kernel
theorem d5_71 : decode jdk_33_method_47_code 71 = .ok (.iushr, 1) := by decide +kernel
theorem d5_72 : decode jdk_33_method_47_code 72 = .ok (.istore_n 0, 1) := by decide +kernel
theorem d5_73 : decode jdk_33_method_47_code 73 = .ok (.iload_n 1, 1) := by decide +kernel
theorem d5_74 : decode jdk_33_method_47_code 74 = .ok (.iload_n 0, 1) := by decide +kernel
theorem d5_75 : decode jdk_33_method_47_code 75 = .ok (.iconst 1, 1) := by decide +kernel
theorem d5_76 : decode jdk_33_method_47_code 76 = .ok (.iushr, 1) := by decide +kernel
theorem d5_77 : decode jdk_33_method_47_code 77 = .ok (.isub, 1) := by decide +kernel
theorem d5_78 : decode jdk_33_method_47_code 78 = .ok (.ireturn, 1) := by decide +kernel
theorem own_pn5 : plainName "java/lang/Integer" = true := by first | (simp [plainName, overriddenIn]; done) | decide +kernel
theorem ef_rm_nzi7 (m : MethodId)  : entryFrame m #[(.int (7 : Int32))] 2 = mkF m 0 #[.val (.int (7 : Int32)), .unset] [] := by first | (simp [entryFrame, mkF, argsToLocals, Value.category]; done) | rfl
def Q_rm_nzi7 (Z : State)  (h0 : Heap) (n0 : Nat) (v : Option Value) (h : Heap) (L : List Loc) : Prop := v = some (.int (29 : Int32)) ∧ Fr n0 L ∧ h = h0
set_option maxRecDepth 65536 in
set_option maxHeartbeats 40000000 in
theorem rm_nzi7 (l : Launch) (Z : State) (av0 : Array Value) (hw : ∀ d ∈ tables_1, d.before av0 Z = true) (ws : List Jvm.Cond)  (h0 : Heap) (n0 : Nat) (Z0 : n0 ≤ h0.size) :
    MetFree l (⟨"java/lang/Integer", "numberOfLeadingZeros", "(I)I"⟩ : MethodName) (head1 (Jvm.Cond.code (⟨"java/lang/Integer", "numberOfLeadingZeros", "(I)I"⟩ : MethodName) jdk_33_method_47_code 2 (some .int) :: ws) ({ frames := 0, cells := 0, slots := 0, locals := 0 } : Room)) (fun a U => a = #[(.int (7 : Int32))] ∧ Z.Warmed39 U.vm ∧ U.heap = h0) (fun _ _ _ _ _ => True) (fun _ U o U' => ∃ v L, o = .returned v ∧ Q_rm_nzi7 Z  h0 n0 v U'.heap L ∧ FrameEnd U o U' L ({ frames := 0, cells := 0, slots := 0, locals := 0 } : Room).cells ({ frames := 0, cells := 0, slots := 0, locals := 0 } : Room).slots) := by
  refine MetFree.of_bodySF (plainFor_of_name own_pn5) hisR ?_
  intro p e s m args below meth c s₁ Bd hml0 hP hK
  obtain ⟨rfl, hZ, hh⟩ := hP
  have hx := Bd.exec
  have hby := Bd.bytes
  have hml : c.maxLocals = 2 := hml0
  have hown : s.vm.findClass "java/lang/Integer" = some m.cls := findClass_of_methodNamed Bd.named
  have hnm := (name_of_methodNamed Bd.named Bd.method).1
  have X0 : Stand p l e ({ frames := 0, cells := 0, slots := 0, locals := 0 } : Room) s m #[(.int (7 : Int32))] below meth c s₁ [] 0 0 := Stand.of_body Bd
  have e0 : s₁.heap = h0 := by rw [← hh, Bd.state]; rfl
  have N0 := Fr.nil n0
  refine OGo.by (P := fun U' o => ∃ v L, o = .returned v ∧ Q_rm_nzi7 Z  h0 n0 v U'.heap L ∧ FrameEnd s o U' L ({ frames := 0, cells := 0, slots := 0, locals := 0 } : Room).cells ({ frames := 0, cells := 0, slots := 0, locals := 0 } : Room).slots) (fun T_ k_ => castTop (ef_rm_nzi7 m ) k_) ?_
  show OGo p e below _ (s₁.setTop (mkF m 0 #[.val (.int (7 : Int32)), .unset] []))
  refine OGo.by (fun _ k => XS.iloadN X0.here hx rfl (hb hby d5_0) rfl k) ?_
  show OGo p e below _ (s₁.setTop (mkF m 1 #[.val (.int (7 : Int32)), .unset] [(.int (7 : Int32))]))
  refine OGo.by (fun _ k => XS.ifYes X0.here hx rfl (pc0 := 1) (pc' := 15) rfl (hb hby d5_1) rfl ((if0 _ _).trans (tlt (by decide : (0 : Int32) < (7 : Int32))).2.2.1) (by decide) (by decide) k) ?_
  show OGo p e below _ (s₁.setTop (mkF m 15 #[.val (.int (7 : Int32)), .unset] []))
  refine OGo.by (fun _ k => XS.bipush X0.here hx rfl (hb hby d5_15) k) ?_
  show OGo p e below _ (s₁.setTop (mkF m 17 #[.val (.int (7 : Int32)), .unset] [(.int (31 : Int32))]))
  refine OGo.by (fun _ k => XS.istoreN X0.here hx rfl (hb hby d5_17) rfl (l' := #[.val (.int (7 : Int32)), .val (.int (31 : Int32))]) rfl k) ?_
  show OGo p e below _ (s₁.setTop (mkF m 18 #[.val (.int (7 : Int32)), .val (.int (31 : Int32))] []))
  refine OGo.by (fun _ k => XS.iloadN X0.here hx rfl (hb hby d5_18) rfl k) ?_
  show OGo p e below _ (s₁.setTop (mkF m 19 #[.val (.int (7 : Int32)), .val (.int (31 : Int32))] [(.int (7 : Int32))]))
  refine OGo.by (X0.ldcwInt hx hown (mvT hZ (hw _ (List.mem_of_getElem? (i := 26) rfl))) (g := (mkF m 19 #[.val (.int (7 : Int32)), .val (.int (31 : Int32))] [(.int (7 : Int32))])) rfl (hb hby d5_19)) ?_
  show OGo p e below _ (s₁.setTop (mkF m 22 #[.val (.int (7 : Int32)), .val (.int (31 : Int32))] [(.int (65536 : Int32)), (.int (7 : Int32))]))
  refine OGo.by (fun _ k => XS.icmpYes X0.here hx rfl (pc0 := 22) (pc' := 33) rfl (hb hby d5_22) rfl (tlt (by decide : (7 : Int32) < (65536 : Int32))).1 (by decide) (by decide) k) ?_
  show OGo p e below _ (s₁.setTop (mkF m 33 #[.val (.int (7 : Int32)), .val (.int (31 : Int32))] []))
  refine OGo.by (fun _ k => XS.iloadN X0.here hx rfl (hb hby d5_33) rfl k) ?_
  show OGo p e below _ (s₁.setTop (mkF m 34 #[.val (.int (7 : Int32)), .val (.int (31 : Int32))] [(.int (7 : Int32))]))
  refine OGo.by (fun _ k => XS.sipush X0.here hx rfl (hb hby d5_34) k) ?_
  show OGo p e below _ (s₁.setTop (mkF m 37 #[.val (.int (7 : Int32)), .val (.int (31 : Int32))] [(.int (256 : Int32)), (.int (7 : Int32))]))
  refine OGo.by (fun _ k => XS.icmpYes X0.here hx rfl (pc0 := 37) (pc' := 48) rfl (hb hby d5_37) rfl (tlt (by decide : (7 : Int32) < (256 : Int32))).1 (by decide) (by decide) k) ?_
  show OGo p e below _ (s₁.setTop (mkF m 48 #[.val (.int (7 : Int32)), .val (.int (31 : Int32))] []))
  refine OGo.by (fun _ k => XS.iloadN X0.here hx rfl (hb hby d5_48) rfl k) ?_
  show OGo p e below _ (s₁.setTop (mkF m 49 #[.val (.int (7 : Int32)), .val (.int (31 : Int32))] [(.int (7 : Int32))]))
  refine OGo.by (fun _ k => XS.bipush X0.here hx rfl (hb hby d5_49) k) ?_
  show OGo p e below _ (s₁.setTop (mkF m 51 #[.val (.int (7 : Int32)), .val (.int (31 : Int32))] [(.int (16 : Int32)), (.int (7 : Int32))]))
  refine OGo.by (fun _ k => XS.icmpYes X0.here hx rfl (pc0 := 51) (pc' := 61) rfl (hb hby d5_51) rfl (tlt (by decide : (7 : Int32) < (16 : Int32))).1 (by decide) (by decide) k) ?_
  show OGo p e below _ (s₁.setTop (mkF m 61 #[.val (.int (7 : Int32)), .val (.int (31 : Int32))] []))
  refine OGo.by (fun _ k => XS.iloadN X0.here hx rfl (hb hby d5_61) rfl k) ?_
  show OGo p e below _ (s₁.setTop (mkF m 62 #[.val (.int (7 : Int32)), .val (.int (31 : Int32))] [(.int (7 : Int32))]))
  refine OGo.by (fun _ k => XS.iconst X0.here hx rfl (hb hby d5_62) k) ?_
  show OGo p e below _ (s₁.setTop (mkF m 63 #[.val (.int (7 : Int32)), .val (.int (31 : Int32))] [(.int (4 : Int32)), (.int (7 : Int32))]))
  refine OGo.by (fun _ k => XS.icmpNo X0.here hx rfl (hb hby d5_63) rfl (flt (by decide : ¬ ((7 : Int32) < (4 : Int32)))).1 k) ?_
  show OGo p e below _ (s₁.setTop (mkF m 66 #[.val (.int (7 : Int32)), .val (.int (31 : Int32))] []))
  refine OGo.by (fun _ k => XS.iinc X0.here hx rfl (hb hby d5_66) rfl (l' := #[.val (.int (7 : Int32)), .val (.int (29 : Int32))]) rfl k) ?_
  show OGo p e below _ (s₁.setTop (mkF m 69 #[.val (.int (7 : Int32)), .val (.int (29 : Int32))] []))
  refine OGo.by (fun _ k => XS.iloadN X0.here hx rfl (hb hby d5_69) rfl k) ?_
  show OGo p e below _ (s₁.setTop (mkF m 70 #[.val (.int (7 : Int32)), .val (.int (29 : Int32))] [(.int (7 : Int32))]))
  refine OGo.by (fun _ k => XS.iconst X0.here hx rfl (hb hby d5_70) k) ?_
  show OGo p e below _ (s₁.setTop (mkF m 71 #[.val (.int (7 : Int32)), .val (.int (29 : Int32))] [(.int (2 : Int32)), (.int (7 : Int32))]))
  refine OGo.by (fun _ k => XS.iushr X0.here hx rfl (hb hby d5_71) rfl k) ?_
  show OGo p e below _ (s₁.setTop (mkF m 72 #[.val (.int (7 : Int32)), .val (.int (29 : Int32))] [(.int (((7 : Int32).toUInt32 >>> ((2 : Int32) &&& 31).toUInt32).toInt32))]))
  rw [(by decide : (((7 : Int32).toUInt32 >>> ((2 : Int32) &&& 31).toUInt32).toInt32) = (1 : Int32))]
  show OGo p e below _ (s₁.setTop (mkF m 72 #[.val (.int (7 : Int32)), .val (.int (29 : Int32))] [(.int (1 : Int32))]))
  refine OGo.by (fun _ k => XS.istoreN X0.here hx rfl (hb hby d5_72) rfl (l' := #[.val (.int (1 : Int32)), .val (.int (29 : Int32))]) rfl k) ?_
  show OGo p e below _ (s₁.setTop (mkF m 73 #[.val (.int (1 : Int32)), .val (.int (29 : Int32))] []))
  refine OGo.by (fun _ k => XS.iloadN X0.here hx rfl (hb hby d5_73) rfl k) ?_
  show OGo p e below _ (s₁.setTop (mkF m 74 #[.val (.int (1 : Int32)), .val (.int (29 : Int32))] [(.int (29 : Int32))]))
  refine OGo.by (fun _ k => XS.iloadN X0.here hx rfl (hb hby d5_74) rfl k) ?_
  show OGo p e below _ (s₁.setTop (mkF m 75 #[.val (.int (1 : Int32)), .val (.int (29 : Int32))] [(.int (1 : Int32)), (.int (29 : Int32))]))
  refine OGo.by (fun _ k => XS.iconst X0.here hx rfl (hb hby d5_75) k) ?_
  show OGo p e below _ (s₁.setTop (mkF m 76 #[.val (.int (1 : Int32)), .val (.int (29 : Int32))] [(.int (1 : Int32)), (.int (1 : Int32)), (.int (29 : Int32))]))
  refine OGo.by (fun _ k => XS.iushr X0.here hx rfl (hb hby d5_76) rfl k) ?_
  show OGo p e below _ (s₁.setTop (mkF m 77 #[.val (.int (1 : Int32)), .val (.int (29 : Int32))] [(.int (((1 : Int32).toUInt32 >>> ((1 : Int32) &&& 31).toUInt32).toInt32)), (.int (29 : Int32))]))
  rw [(by decide : (((1 : Int32).toUInt32 >>> ((1 : Int32) &&& 31).toUInt32).toInt32) = (0 : Int32))]
  show OGo p e below _ (s₁.setTop (mkF m 77 #[.val (.int (1 : Int32)), .val (.int (29 : Int32))] [(.int (0 : Int32)), (.int (29 : Int32))]))
  refine OGo.by (fun _ k => XS.isub X0.here hx rfl (hb hby d5_77) rfl k) ?_
  show OGo p e below _ (s₁.setTop (mkF m 78 #[.val (.int (1 : Int32)), .val (.int (29 : Int32))] [(.int (29 : Int32))]))
  obtain ⟨fs, hr, hrun, hended, hW, hsame⟩ := X0.leave (v := some (.int (29 : Int32))) (fun h => by rw [Bd.returns] at h; cases h)
  refine OGo.ret (retI X0 hx Bd.returns (hb hby d5_78) hr) hrun hended ⟨_, _, rfl, ?_, ⟨_, rfl⟩, hW, hsame.mono (by decide) (by decide)⟩
  show Q_rm_nzi7 Z  h0 n0 _ s₁.heap _
  rw [e0]
  exact ⟨rfl, N0, rfl⟩
theorem ef_rm_nzi9 (m : MethodId)  : entryFrame m #[(.int (9 : Int32))] 2 = mkF m 0 #[.val (.int (9 : Int32)), .unset] [] := by first | (simp [entryFrame, mkF, argsToLocals, Value.category]; done) | rfl
def Q_rm_nzi9 (Z : State)  (h0 : Heap) (n0 : Nat) (v : Option Value) (h : Heap) (L : List Loc) : Prop := v = some (.int (28 : Int32)) ∧ Fr n0 L ∧ h = h0
set_option maxRecDepth 65536 in
set_option maxHeartbeats 40000000 in
theorem rm_nzi9 (l : Launch) (Z : State) (av0 : Array Value) (hw : ∀ d ∈ tables_1, d.before av0 Z = true) (ws : List Jvm.Cond)  (h0 : Heap) (n0 : Nat) (Z0 : n0 ≤ h0.size) :
    MetFree l (⟨"java/lang/Integer", "numberOfLeadingZeros", "(I)I"⟩ : MethodName) (head1 (Jvm.Cond.code (⟨"java/lang/Integer", "numberOfLeadingZeros", "(I)I"⟩ : MethodName) jdk_33_method_47_code 2 (some .int) :: ws) ({ frames := 0, cells := 0, slots := 0, locals := 0 } : Room)) (fun a U => a = #[(.int (9 : Int32))] ∧ Z.Warmed39 U.vm ∧ U.heap = h0) (fun _ _ _ _ _ => True) (fun _ U o U' => ∃ v L, o = .returned v ∧ Q_rm_nzi9 Z  h0 n0 v U'.heap L ∧ FrameEnd U o U' L ({ frames := 0, cells := 0, slots := 0, locals := 0 } : Room).cells ({ frames := 0, cells := 0, slots := 0, locals := 0 } : Room).slots) := by
  refine MetFree.of_bodySF (plainFor_of_name own_pn5) hisR ?_
  intro p e s m args below meth c s₁ Bd hml0 hP hK
  obtain ⟨rfl, hZ, hh⟩ := hP
  have hx := Bd.exec
  have hby := Bd.bytes
  have hml : c.maxLocals = 2 := hml0
  have hown : s.vm.findClass "java/lang/Integer" = some m.cls := findClass_of_methodNamed Bd.named
  have hnm := (name_of_methodNamed Bd.named Bd.method).1
  have X0 : Stand p l e ({ frames := 0, cells := 0, slots := 0, locals := 0 } : Room) s m #[(.int (9 : Int32))] below meth c s₁ [] 0 0 := Stand.of_body Bd
  have e0 : s₁.heap = h0 := by rw [← hh, Bd.state]; rfl
  have N0 := Fr.nil n0
  refine OGo.by (P := fun U' o => ∃ v L, o = .returned v ∧ Q_rm_nzi9 Z  h0 n0 v U'.heap L ∧ FrameEnd s o U' L ({ frames := 0, cells := 0, slots := 0, locals := 0 } : Room).cells ({ frames := 0, cells := 0, slots := 0, locals := 0 } : Room).slots) (fun T_ k_ => castTop (ef_rm_nzi9 m ) k_) ?_
  show OGo p e below _ (s₁.setTop (mkF m 0 #[.val (.int (9 : Int32)), .unset] []))
  refine OGo.by (fun _ k => XS.iloadN X0.here hx rfl (hb hby d5_0) rfl k) ?_
  show OGo p e below _ (s₁.setTop (mkF m 1 #[.val (.int (9 : Int32)), .unset] [(.int (9 : Int32))]))
  refine OGo.by (fun _ k => XS.ifYes X0.here hx rfl (pc0 := 1) (pc' := 15) rfl (hb hby d5_1) rfl ((if0 _ _).trans (tlt (by decide : (0 : Int32) < (9 : Int32))).2.2.1) (by decide) (by decide) k) ?_
  show OGo p e below _ (s₁.setTop (mkF m 15 #[.val (.int (9 : Int32)), .unset] []))
  refine OGo.by (fun _ k => XS.bipush X0.here hx rfl (hb hby d5_15) k) ?_
  show OGo p e below _ (s₁.setTop (mkF m 17 #[.val (.int (9 : Int32)), .unset] [(.int (31 : Int32))]))
  refine OGo.by (fun _ k => XS.istoreN X0.here hx rfl (hb hby d5_17) rfl (l' := #[.val (.int (9 : Int32)), .val (.int (31 : Int32))]) rfl k) ?_
  show OGo p e below _ (s₁.setTop (mkF m 18 #[.val (.int (9 : Int32)), .val (.int (31 : Int32))] []))
  refine OGo.by (fun _ k => XS.iloadN X0.here hx rfl (hb hby d5_18) rfl k) ?_
  show OGo p e below _ (s₁.setTop (mkF m 19 #[.val (.int (9 : Int32)), .val (.int (31 : Int32))] [(.int (9 : Int32))]))
  refine OGo.by (X0.ldcwInt hx hown (mvT hZ (hw _ (List.mem_of_getElem? (i := 26) rfl))) (g := (mkF m 19 #[.val (.int (9 : Int32)), .val (.int (31 : Int32))] [(.int (9 : Int32))])) rfl (hb hby d5_19)) ?_
  show OGo p e below _ (s₁.setTop (mkF m 22 #[.val (.int (9 : Int32)), .val (.int (31 : Int32))] [(.int (65536 : Int32)), (.int (9 : Int32))]))
  refine OGo.by (fun _ k => XS.icmpYes X0.here hx rfl (pc0 := 22) (pc' := 33) rfl (hb hby d5_22) rfl (tlt (by decide : (9 : Int32) < (65536 : Int32))).1 (by decide) (by decide) k) ?_
  show OGo p e below _ (s₁.setTop (mkF m 33 #[.val (.int (9 : Int32)), .val (.int (31 : Int32))] []))
  refine OGo.by (fun _ k => XS.iloadN X0.here hx rfl (hb hby d5_33) rfl k) ?_
  show OGo p e below _ (s₁.setTop (mkF m 34 #[.val (.int (9 : Int32)), .val (.int (31 : Int32))] [(.int (9 : Int32))]))
  refine OGo.by (fun _ k => XS.sipush X0.here hx rfl (hb hby d5_34) k) ?_
  show OGo p e below _ (s₁.setTop (mkF m 37 #[.val (.int (9 : Int32)), .val (.int (31 : Int32))] [(.int (256 : Int32)), (.int (9 : Int32))]))
  refine OGo.by (fun _ k => XS.icmpYes X0.here hx rfl (pc0 := 37) (pc' := 48) rfl (hb hby d5_37) rfl (tlt (by decide : (9 : Int32) < (256 : Int32))).1 (by decide) (by decide) k) ?_
  show OGo p e below _ (s₁.setTop (mkF m 48 #[.val (.int (9 : Int32)), .val (.int (31 : Int32))] []))
  refine OGo.by (fun _ k => XS.iloadN X0.here hx rfl (hb hby d5_48) rfl k) ?_
  show OGo p e below _ (s₁.setTop (mkF m 49 #[.val (.int (9 : Int32)), .val (.int (31 : Int32))] [(.int (9 : Int32))]))
  refine OGo.by (fun _ k => XS.bipush X0.here hx rfl (hb hby d5_49) k) ?_
  show OGo p e below _ (s₁.setTop (mkF m 51 #[.val (.int (9 : Int32)), .val (.int (31 : Int32))] [(.int (16 : Int32)), (.int (9 : Int32))]))
  refine OGo.by (fun _ k => XS.icmpYes X0.here hx rfl (pc0 := 51) (pc' := 61) rfl (hb hby d5_51) rfl (tlt (by decide : (9 : Int32) < (16 : Int32))).1 (by decide) (by decide) k) ?_
  show OGo p e below _ (s₁.setTop (mkF m 61 #[.val (.int (9 : Int32)), .val (.int (31 : Int32))] []))
  refine OGo.by (fun _ k => XS.iloadN X0.here hx rfl (hb hby d5_61) rfl k) ?_
  show OGo p e below _ (s₁.setTop (mkF m 62 #[.val (.int (9 : Int32)), .val (.int (31 : Int32))] [(.int (9 : Int32))]))
  refine OGo.by (fun _ k => XS.iconst X0.here hx rfl (hb hby d5_62) k) ?_
  show OGo p e below _ (s₁.setTop (mkF m 63 #[.val (.int (9 : Int32)), .val (.int (31 : Int32))] [(.int (4 : Int32)), (.int (9 : Int32))]))
  refine OGo.by (fun _ k => XS.icmpNo X0.here hx rfl (hb hby d5_63) rfl (flt (by decide : ¬ ((9 : Int32) < (4 : Int32)))).1 k) ?_
  show OGo p e below _ (s₁.setTop (mkF m 66 #[.val (.int (9 : Int32)), .val (.int (31 : Int32))] []))
  refine OGo.by (fun _ k => XS.iinc X0.here hx rfl (hb hby d5_66) rfl (l' := #[.val (.int (9 : Int32)), .val (.int (29 : Int32))]) rfl k) ?_
  show OGo p e below _ (s₁.setTop (mkF m 69 #[.val (.int (9 : Int32)), .val (.int (29 : Int32))] []))
  refine OGo.by (fun _ k => XS.iloadN X0.here hx rfl (hb hby d5_69) rfl k) ?_
  show OGo p e below _ (s₁.setTop (mkF m 70 #[.val (.int (9 : Int32)), .val (.int (29 : Int32))] [(.int (9 : Int32))]))
  refine OGo.by (fun _ k => XS.iconst X0.here hx rfl (hb hby d5_70) k) ?_
  show OGo p e below _ (s₁.setTop (mkF m 71 #[.val (.int (9 : Int32)), .val (.int (29 : Int32))] [(.int (2 : Int32)), (.int (9 : Int32))]))
  refine OGo.by (fun _ k => XS.iushr X0.here hx rfl (hb hby d5_71) rfl k) ?_
  show OGo p e below _ (s₁.setTop (mkF m 72 #[.val (.int (9 : Int32)), .val (.int (29 : Int32))] [(.int (((9 : Int32).toUInt32 >>> ((2 : Int32) &&& 31).toUInt32).toInt32))]))
  rw [(by decide : (((9 : Int32).toUInt32 >>> ((2 : Int32) &&& 31).toUInt32).toInt32) = (2 : Int32))]
  show OGo p e below _ (s₁.setTop (mkF m 72 #[.val (.int (9 : Int32)), .val (.int (29 : Int32))] [(.int (2 : Int32))]))
  refine OGo.by (fun _ k => XS.istoreN X0.here hx rfl (hb hby d5_72) rfl (l' := #[.val (.int (2 : Int32)), .val (.int (29 : Int32))]) rfl k) ?_
  show OGo p e below _ (s₁.setTop (mkF m 73 #[.val (.int (2 : Int32)), .val (.int (29 : Int32))] []))
  refine OGo.by (fun _ k => XS.iloadN X0.here hx rfl (hb hby d5_73) rfl k) ?_
  show OGo p e below _ (s₁.setTop (mkF m 74 #[.val (.int (2 : Int32)), .val (.int (29 : Int32))] [(.int (29 : Int32))]))
  refine OGo.by (fun _ k => XS.iloadN X0.here hx rfl (hb hby d5_74) rfl k) ?_
  show OGo p e below _ (s₁.setTop (mkF m 75 #[.val (.int (2 : Int32)), .val (.int (29 : Int32))] [(.int (2 : Int32)), (.int (29 : Int32))]))
  refine OGo.by (fun _ k => XS.iconst X0.here hx rfl (hb hby d5_75) k) ?_
  show OGo p e below _ (s₁.setTop (mkF m 76 #[.val (.int (2 : Int32)), .val (.int (29 : Int32))] [(.int (1 : Int32)), (.int (2 : Int32)), (.int (29 : Int32))]))
  refine OGo.by (fun _ k => XS.iushr X0.here hx rfl (hb hby d5_76) rfl k) ?_
  show OGo p e below _ (s₁.setTop (mkF m 77 #[.val (.int (2 : Int32)), .val (.int (29 : Int32))] [(.int (((2 : Int32).toUInt32 >>> ((1 : Int32) &&& 31).toUInt32).toInt32)), (.int (29 : Int32))]))
  rw [(by decide : (((2 : Int32).toUInt32 >>> ((1 : Int32) &&& 31).toUInt32).toInt32) = (1 : Int32))]
  show OGo p e below _ (s₁.setTop (mkF m 77 #[.val (.int (2 : Int32)), .val (.int (29 : Int32))] [(.int (1 : Int32)), (.int (29 : Int32))]))
  refine OGo.by (fun _ k => XS.isub X0.here hx rfl (hb hby d5_77) rfl k) ?_
  show OGo p e below _ (s₁.setTop (mkF m 78 #[.val (.int (2 : Int32)), .val (.int (29 : Int32))] [(.int (28 : Int32))]))
  obtain ⟨fs, hr, hrun, hended, hW, hsame⟩ := X0.leave (v := some (.int (28 : Int32))) (fun h => by rw [Bd.returns] at h; cases h)
  refine OGo.ret (retI X0 hx Bd.returns (hb hby d5_78) hr) hrun hended ⟨_, _, rfl, ?_, ⟨_, rfl⟩, hW, hsame.mono (by decide) (by decide)⟩
  show Q_rm_nzi9 Z  h0 n0 _ s₁.heap _
  rw [e0]
  exact ⟨rfl, N0, rfl⟩
theorem ef_rm_nzi11 (m : MethodId)  : entryFrame m #[(.int (11 : Int32))] 2 = mkF m 0 #[.val (.int (11 : Int32)), .unset] [] := by first | (simp [entryFrame, mkF, argsToLocals, Value.category]; done) | rfl
def Q_rm_nzi11 (Z : State)  (h0 : Heap) (n0 : Nat) (v : Option Value) (h : Heap) (L : List Loc) : Prop := v = some (.int (28 : Int32)) ∧ Fr n0 L ∧ h = h0
set_option maxRecDepth 65536 in
set_option maxHeartbeats 40000000 in
theorem rm_nzi11 (l : Launch) (Z : State) (av0 : Array Value) (hw : ∀ d ∈ tables_1, d.before av0 Z = true) (ws : List Jvm.Cond)  (h0 : Heap) (n0 : Nat) (Z0 : n0 ≤ h0.size) :
    MetFree l (⟨"java/lang/Integer", "numberOfLeadingZeros", "(I)I"⟩ : MethodName) (head1 (Jvm.Cond.code (⟨"java/lang/Integer", "numberOfLeadingZeros", "(I)I"⟩ : MethodName) jdk_33_method_47_code 2 (some .int) :: ws) ({ frames := 0, cells := 0, slots := 0, locals := 0 } : Room)) (fun a U => a = #[(.int (11 : Int32))] ∧ Z.Warmed39 U.vm ∧ U.heap = h0) (fun _ _ _ _ _ => True) (fun _ U o U' => ∃ v L, o = .returned v ∧ Q_rm_nzi11 Z  h0 n0 v U'.heap L ∧ FrameEnd U o U' L ({ frames := 0, cells := 0, slots := 0, locals := 0 } : Room).cells ({ frames := 0, cells := 0, slots := 0, locals := 0 } : Room).slots) := by
  refine MetFree.of_bodySF (plainFor_of_name own_pn5) hisR ?_
  intro p e s m args below meth c s₁ Bd hml0 hP hK
  obtain ⟨rfl, hZ, hh⟩ := hP
  have hx := Bd.exec
  have hby := Bd.bytes
  have hml : c.maxLocals = 2 := hml0
  have hown : s.vm.findClass "java/lang/Integer" = some m.cls := findClass_of_methodNamed Bd.named
  have hnm := (name_of_methodNamed Bd.named Bd.method).1
  have X0 : Stand p l e ({ frames := 0, cells := 0, slots := 0, locals := 0 } : Room) s m #[(.int (11 : Int32))] below meth c s₁ [] 0 0 := Stand.of_body Bd
  have e0 : s₁.heap = h0 := by rw [← hh, Bd.state]; rfl
  have N0 := Fr.nil n0
  refine OGo.by (P := fun U' o => ∃ v L, o = .returned v ∧ Q_rm_nzi11 Z  h0 n0 v U'.heap L ∧ FrameEnd s o U' L ({ frames := 0, cells := 0, slots := 0, locals := 0 } : Room).cells ({ frames := 0, cells := 0, slots := 0, locals := 0 } : Room).slots) (fun T_ k_ => castTop (ef_rm_nzi11 m ) k_) ?_
  show OGo p e below _ (s₁.setTop (mkF m 0 #[.val (.int (11 : Int32)), .unset] []))
  refine OGo.by (fun _ k => XS.iloadN X0.here hx rfl (hb hby d5_0) rfl k) ?_
  show OGo p e below _ (s₁.setTop (mkF m 1 #[.val (.int (11 : Int32)), .unset] [(.int (11 : Int32))]))
  refine OGo.by (fun _ k => XS.ifYes X0.here hx rfl (pc0 := 1) (pc' := 15) rfl (hb hby d5_1) rfl ((if0 _ _).trans (tlt (by decide : (0 : Int32) < (11 : Int32))).2.2.1) (by decide) (by decide) k) ?_
  show OGo p e below _ (s₁.setTop (mkF m 15 #[.val (.int (11 : Int32)), .unset] []))
  refine OGo.by (fun _ k => XS.bipush X0.here hx rfl (hb hby d5_15) k) ?_
  show OGo p e below _ (s₁.setTop (mkF m 17 #[.val (.int (11 : Int32)), .unset] [(.int (31 : Int32))]))
  refine OGo.by (fun _ k => XS.istoreN X0.here hx rfl (hb hby d5_17) rfl (l' := #[.val (.int (11 : Int32)), .val (.int (31 : Int32))]) rfl k) ?_
  show OGo p e below _ (s₁.setTop (mkF m 18 #[.val (.int (11 : Int32)), .val (.int (31 : Int32))] []))
  refine OGo.by (fun _ k => XS.iloadN X0.here hx rfl (hb hby d5_18) rfl k) ?_
  show OGo p e below _ (s₁.setTop (mkF m 19 #[.val (.int (11 : Int32)), .val (.int (31 : Int32))] [(.int (11 : Int32))]))
  refine OGo.by (X0.ldcwInt hx hown (mvT hZ (hw _ (List.mem_of_getElem? (i := 26) rfl))) (g := (mkF m 19 #[.val (.int (11 : Int32)), .val (.int (31 : Int32))] [(.int (11 : Int32))])) rfl (hb hby d5_19)) ?_
  show OGo p e below _ (s₁.setTop (mkF m 22 #[.val (.int (11 : Int32)), .val (.int (31 : Int32))] [(.int (65536 : Int32)), (.int (11 : Int32))]))
  refine OGo.by (fun _ k => XS.icmpYes X0.here hx rfl (pc0 := 22) (pc' := 33) rfl (hb hby d5_22) rfl (tlt (by decide : (11 : Int32) < (65536 : Int32))).1 (by decide) (by decide) k) ?_
  show OGo p e below _ (s₁.setTop (mkF m 33 #[.val (.int (11 : Int32)), .val (.int (31 : Int32))] []))
  refine OGo.by (fun _ k => XS.iloadN X0.here hx rfl (hb hby d5_33) rfl k) ?_
  show OGo p e below _ (s₁.setTop (mkF m 34 #[.val (.int (11 : Int32)), .val (.int (31 : Int32))] [(.int (11 : Int32))]))
  refine OGo.by (fun _ k => XS.sipush X0.here hx rfl (hb hby d5_34) k) ?_
  show OGo p e below _ (s₁.setTop (mkF m 37 #[.val (.int (11 : Int32)), .val (.int (31 : Int32))] [(.int (256 : Int32)), (.int (11 : Int32))]))
  refine OGo.by (fun _ k => XS.icmpYes X0.here hx rfl (pc0 := 37) (pc' := 48) rfl (hb hby d5_37) rfl (tlt (by decide : (11 : Int32) < (256 : Int32))).1 (by decide) (by decide) k) ?_
  show OGo p e below _ (s₁.setTop (mkF m 48 #[.val (.int (11 : Int32)), .val (.int (31 : Int32))] []))
  refine OGo.by (fun _ k => XS.iloadN X0.here hx rfl (hb hby d5_48) rfl k) ?_
  show OGo p e below _ (s₁.setTop (mkF m 49 #[.val (.int (11 : Int32)), .val (.int (31 : Int32))] [(.int (11 : Int32))]))
  refine OGo.by (fun _ k => XS.bipush X0.here hx rfl (hb hby d5_49) k) ?_
  show OGo p e below _ (s₁.setTop (mkF m 51 #[.val (.int (11 : Int32)), .val (.int (31 : Int32))] [(.int (16 : Int32)), (.int (11 : Int32))]))
  refine OGo.by (fun _ k => XS.icmpYes X0.here hx rfl (pc0 := 51) (pc' := 61) rfl (hb hby d5_51) rfl (tlt (by decide : (11 : Int32) < (16 : Int32))).1 (by decide) (by decide) k) ?_
  show OGo p e below _ (s₁.setTop (mkF m 61 #[.val (.int (11 : Int32)), .val (.int (31 : Int32))] []))
  refine OGo.by (fun _ k => XS.iloadN X0.here hx rfl (hb hby d5_61) rfl k) ?_
  show OGo p e below _ (s₁.setTop (mkF m 62 #[.val (.int (11 : Int32)), .val (.int (31 : Int32))] [(.int (11 : Int32))]))
  refine OGo.by (fun _ k => XS.iconst X0.here hx rfl (hb hby d5_62) k) ?_
  show OGo p e below _ (s₁.setTop (mkF m 63 #[.val (.int (11 : Int32)), .val (.int (31 : Int32))] [(.int (4 : Int32)), (.int (11 : Int32))]))
  refine OGo.by (fun _ k => XS.icmpNo X0.here hx rfl (hb hby d5_63) rfl (flt (by decide : ¬ ((11 : Int32) < (4 : Int32)))).1 k) ?_
  show OGo p e below _ (s₁.setTop (mkF m 66 #[.val (.int (11 : Int32)), .val (.int (31 : Int32))] []))
  refine OGo.by (fun _ k => XS.iinc X0.here hx rfl (hb hby d5_66) rfl (l' := #[.val (.int (11 : Int32)), .val (.int (29 : Int32))]) rfl k) ?_
  show OGo p e below _ (s₁.setTop (mkF m 69 #[.val (.int (11 : Int32)), .val (.int (29 : Int32))] []))
  refine OGo.by (fun _ k => XS.iloadN X0.here hx rfl (hb hby d5_69) rfl k) ?_
  show OGo p e below _ (s₁.setTop (mkF m 70 #[.val (.int (11 : Int32)), .val (.int (29 : Int32))] [(.int (11 : Int32))]))
  refine OGo.by (fun _ k => XS.iconst X0.here hx rfl (hb hby d5_70) k) ?_
  show OGo p e below _ (s₁.setTop (mkF m 71 #[.val (.int (11 : Int32)), .val (.int (29 : Int32))] [(.int (2 : Int32)), (.int (11 : Int32))]))
  refine OGo.by (fun _ k => XS.iushr X0.here hx rfl (hb hby d5_71) rfl k) ?_
  show OGo p e below _ (s₁.setTop (mkF m 72 #[.val (.int (11 : Int32)), .val (.int (29 : Int32))] [(.int (((11 : Int32).toUInt32 >>> ((2 : Int32) &&& 31).toUInt32).toInt32))]))
  rw [(by decide : (((11 : Int32).toUInt32 >>> ((2 : Int32) &&& 31).toUInt32).toInt32) = (2 : Int32))]
  show OGo p e below _ (s₁.setTop (mkF m 72 #[.val (.int (11 : Int32)), .val (.int (29 : Int32))] [(.int (2 : Int32))]))
  refine OGo.by (fun _ k => XS.istoreN X0.here hx rfl (hb hby d5_72) rfl (l' := #[.val (.int (2 : Int32)), .val (.int (29 : Int32))]) rfl k) ?_
  show OGo p e below _ (s₁.setTop (mkF m 73 #[.val (.int (2 : Int32)), .val (.int (29 : Int32))] []))
  refine OGo.by (fun _ k => XS.iloadN X0.here hx rfl (hb hby d5_73) rfl k) ?_
  show OGo p e below _ (s₁.setTop (mkF m 74 #[.val (.int (2 : Int32)), .val (.int (29 : Int32))] [(.int (29 : Int32))]))
  refine OGo.by (fun _ k => XS.iloadN X0.here hx rfl (hb hby d5_74) rfl k) ?_
  show OGo p e below _ (s₁.setTop (mkF m 75 #[.val (.int (2 : Int32)), .val (.int (29 : Int32))] [(.int (2 : Int32)), (.int (29 : Int32))]))
  refine OGo.by (fun _ k => XS.iconst X0.here hx rfl (hb hby d5_75) k) ?_
  show OGo p e below _ (s₁.setTop (mkF m 76 #[.val (.int (2 : Int32)), .val (.int (29 : Int32))] [(.int (1 : Int32)), (.int (2 : Int32)), (.int (29 : Int32))]))
  refine OGo.by (fun _ k => XS.iushr X0.here hx rfl (hb hby d5_76) rfl k) ?_
  show OGo p e below _ (s₁.setTop (mkF m 77 #[.val (.int (2 : Int32)), .val (.int (29 : Int32))] [(.int (((2 : Int32).toUInt32 >>> ((1 : Int32) &&& 31).toUInt32).toInt32)), (.int (29 : Int32))]))
  rw [(by decide : (((2 : Int32).toUInt32 >>> ((1 : Int32) &&& 31).toUInt32).toInt32) = (1 : Int32))]
  show OGo p e below _ (s₁.setTop (mkF m 77 #[.val (.int (2 : Int32)), .val (.int (29 : Int32))] [(.int (1 : Int32)), (.int (29 : Int32))]))
  refine OGo.by (fun _ k => XS.isub X0.here hx rfl (hb hby d5_77) rfl k) ?_
  show OGo p e below _ (s₁.setTop (mkF m 78 #[.val (.int (2 : Int32)), .val (.int (29 : Int32))] [(.int (28 : Int32))]))
  obtain ⟨fs, hr, hrun, hended, hW, hsame⟩ := X0.leave (v := some (.int (28 : Int32))) (fun h => by rw [Bd.returns] at h; cases h)
  refine OGo.ret (retI X0 hx Bd.returns (hb hby d5_78) hr) hrun hended ⟨_, _, rfl, ?_, ⟨_, rfl⟩, hW, hsame.mono (by decide) (by decide)⟩
  show Q_rm_nzi11 Z  h0 n0 _ s₁.heap _
  rw [e0]
  exact ⟨rfl, N0, rfl⟩
theorem ef_rm_nzi13 (m : MethodId)  : entryFrame m #[(.int (13 : Int32))] 2 = mkF m 0 #[.val (.int (13 : Int32)), .unset] [] := by first | (simp [entryFrame, mkF, argsToLocals, Value.category]; done) | rfl
def Q_rm_nzi13 (Z : State)  (h0 : Heap) (n0 : Nat) (v : Option Value) (h : Heap) (L : List Loc) : Prop := v = some (.int (28 : Int32)) ∧ Fr n0 L ∧ h = h0
set_option maxRecDepth 65536 in
set_option maxHeartbeats 40000000 in
theorem rm_nzi13 (l : Launch) (Z : State) (av0 : Array Value) (hw : ∀ d ∈ tables_1, d.before av0 Z = true) (ws : List Jvm.Cond)  (h0 : Heap) (n0 : Nat) (Z0 : n0 ≤ h0.size) :
    MetFree l (⟨"java/lang/Integer", "numberOfLeadingZeros", "(I)I"⟩ : MethodName) (head1 (Jvm.Cond.code (⟨"java/lang/Integer", "numberOfLeadingZeros", "(I)I"⟩ : MethodName) jdk_33_method_47_code 2 (some .int) :: ws) ({ frames := 0, cells := 0, slots := 0, locals := 0 } : Room)) (fun a U => a = #[(.int (13 : Int32))] ∧ Z.Warmed39 U.vm ∧ U.heap = h0) (fun _ _ _ _ _ => True) (fun _ U o U' => ∃ v L, o = .returned v ∧ Q_rm_nzi13 Z  h0 n0 v U'.heap L ∧ FrameEnd U o U' L ({ frames := 0, cells := 0, slots := 0, locals := 0 } : Room).cells ({ frames := 0, cells := 0, slots := 0, locals := 0 } : Room).slots) := by
  refine MetFree.of_bodySF (plainFor_of_name own_pn5) hisR ?_
  intro p e s m args below meth c s₁ Bd hml0 hP hK
  obtain ⟨rfl, hZ, hh⟩ := hP
  have hx := Bd.exec
  have hby := Bd.bytes
  have hml : c.maxLocals = 2 := hml0
  have hown : s.vm.findClass "java/lang/Integer" = some m.cls := findClass_of_methodNamed Bd.named
  have hnm := (name_of_methodNamed Bd.named Bd.method).1
  have X0 : Stand p l e ({ frames := 0, cells := 0, slots := 0, locals := 0 } : Room) s m #[(.int (13 : Int32))] below meth c s₁ [] 0 0 := Stand.of_body Bd
  have e0 : s₁.heap = h0 := by rw [← hh, Bd.state]; rfl
  have N0 := Fr.nil n0
  refine OGo.by (P := fun U' o => ∃ v L, o = .returned v ∧ Q_rm_nzi13 Z  h0 n0 v U'.heap L ∧ FrameEnd s o U' L ({ frames := 0, cells := 0, slots := 0, locals := 0 } : Room).cells ({ frames := 0, cells := 0, slots := 0, locals := 0 } : Room).slots) (fun T_ k_ => castTop (ef_rm_nzi13 m ) k_) ?_
  show OGo p e below _ (s₁.setTop (mkF m 0 #[.val (.int (13 : Int32)), .unset] []))
  refine OGo.by (fun _ k => XS.iloadN X0.here hx rfl (hb hby d5_0) rfl k) ?_
  show OGo p e below _ (s₁.setTop (mkF m 1 #[.val (.int (13 : Int32)), .unset] [(.int (13 : Int32))]))
  refine OGo.by (fun _ k => XS.ifYes X0.here hx rfl (pc0 := 1) (pc' := 15) rfl (hb hby d5_1) rfl ((if0 _ _).trans (tlt (by decide : (0 : Int32) < (13 : Int32))).2.2.1) (by decide) (by decide) k) ?_
  show OGo p e below _ (s₁.setTop (mkF m 15 #[.val (.int (13 : Int32)), .unset] []))
  refine OGo.by (fun _ k => XS.bipush X0.here hx rfl (hb hby d5_15) k) ?_
  show OGo p e below _ (s₁.setTop (mkF m 17 #[.val (.int (13 : Int32)), .unset] [(.int (31 : Int32))]))
  refine OGo.by (fun _ k => XS.istoreN X0.here hx rfl (hb hby d5_17) rfl (l' := #[.val (.int (13 : Int32)), .val (.int (31 : Int32))]) rfl k) ?_
  show OGo p e below _ (s₁.setTop (mkF m 18 #[.val (.int (13 : Int32)), .val (.int (31 : Int32))] []))
  refine OGo.by (fun _ k => XS.iloadN X0.here hx rfl (hb hby d5_18) rfl k) ?_
  show OGo p e below _ (s₁.setTop (mkF m 19 #[.val (.int (13 : Int32)), .val (.int (31 : Int32))] [(.int (13 : Int32))]))
  refine OGo.by (X0.ldcwInt hx hown (mvT hZ (hw _ (List.mem_of_getElem? (i := 26) rfl))) (g := (mkF m 19 #[.val (.int (13 : Int32)), .val (.int (31 : Int32))] [(.int (13 : Int32))])) rfl (hb hby d5_19)) ?_
  show OGo p e below _ (s₁.setTop (mkF m 22 #[.val (.int (13 : Int32)), .val (.int (31 : Int32))] [(.int (65536 : Int32)), (.int (13 : Int32))]))
  refine OGo.by (fun _ k => XS.icmpYes X0.here hx rfl (pc0 := 22) (pc' := 33) rfl (hb hby d5_22) rfl (tlt (by decide : (13 : Int32) < (65536 : Int32))).1 (by decide) (by decide) k) ?_
  show OGo p e below _ (s₁.setTop (mkF m 33 #[.val (.int (13 : Int32)), .val (.int (31 : Int32))] []))
  refine OGo.by (fun _ k => XS.iloadN X0.here hx rfl (hb hby d5_33) rfl k) ?_
  show OGo p e below _ (s₁.setTop (mkF m 34 #[.val (.int (13 : Int32)), .val (.int (31 : Int32))] [(.int (13 : Int32))]))
  refine OGo.by (fun _ k => XS.sipush X0.here hx rfl (hb hby d5_34) k) ?_
  show OGo p e below _ (s₁.setTop (mkF m 37 #[.val (.int (13 : Int32)), .val (.int (31 : Int32))] [(.int (256 : Int32)), (.int (13 : Int32))]))
  refine OGo.by (fun _ k => XS.icmpYes X0.here hx rfl (pc0 := 37) (pc' := 48) rfl (hb hby d5_37) rfl (tlt (by decide : (13 : Int32) < (256 : Int32))).1 (by decide) (by decide) k) ?_
  show OGo p e below _ (s₁.setTop (mkF m 48 #[.val (.int (13 : Int32)), .val (.int (31 : Int32))] []))
  refine OGo.by (fun _ k => XS.iloadN X0.here hx rfl (hb hby d5_48) rfl k) ?_
  show OGo p e below _ (s₁.setTop (mkF m 49 #[.val (.int (13 : Int32)), .val (.int (31 : Int32))] [(.int (13 : Int32))]))
  refine OGo.by (fun _ k => XS.bipush X0.here hx rfl (hb hby d5_49) k) ?_
  show OGo p e below _ (s₁.setTop (mkF m 51 #[.val (.int (13 : Int32)), .val (.int (31 : Int32))] [(.int (16 : Int32)), (.int (13 : Int32))]))
  refine OGo.by (fun _ k => XS.icmpYes X0.here hx rfl (pc0 := 51) (pc' := 61) rfl (hb hby d5_51) rfl (tlt (by decide : (13 : Int32) < (16 : Int32))).1 (by decide) (by decide) k) ?_
  show OGo p e below _ (s₁.setTop (mkF m 61 #[.val (.int (13 : Int32)), .val (.int (31 : Int32))] []))
  refine OGo.by (fun _ k => XS.iloadN X0.here hx rfl (hb hby d5_61) rfl k) ?_
  show OGo p e below _ (s₁.setTop (mkF m 62 #[.val (.int (13 : Int32)), .val (.int (31 : Int32))] [(.int (13 : Int32))]))
  refine OGo.by (fun _ k => XS.iconst X0.here hx rfl (hb hby d5_62) k) ?_
  show OGo p e below _ (s₁.setTop (mkF m 63 #[.val (.int (13 : Int32)), .val (.int (31 : Int32))] [(.int (4 : Int32)), (.int (13 : Int32))]))
  refine OGo.by (fun _ k => XS.icmpNo X0.here hx rfl (hb hby d5_63) rfl (flt (by decide : ¬ ((13 : Int32) < (4 : Int32)))).1 k) ?_
  show OGo p e below _ (s₁.setTop (mkF m 66 #[.val (.int (13 : Int32)), .val (.int (31 : Int32))] []))
  refine OGo.by (fun _ k => XS.iinc X0.here hx rfl (hb hby d5_66) rfl (l' := #[.val (.int (13 : Int32)), .val (.int (29 : Int32))]) rfl k) ?_
  show OGo p e below _ (s₁.setTop (mkF m 69 #[.val (.int (13 : Int32)), .val (.int (29 : Int32))] []))
  refine OGo.by (fun _ k => XS.iloadN X0.here hx rfl (hb hby d5_69) rfl k) ?_
  show OGo p e below _ (s₁.setTop (mkF m 70 #[.val (.int (13 : Int32)), .val (.int (29 : Int32))] [(.int (13 : Int32))]))
  refine OGo.by (fun _ k => XS.iconst X0.here hx rfl (hb hby d5_70) k) ?_
  show OGo p e below _ (s₁.setTop (mkF m 71 #[.val (.int (13 : Int32)), .val (.int (29 : Int32))] [(.int (2 : Int32)), (.int (13 : Int32))]))
  refine OGo.by (fun _ k => XS.iushr X0.here hx rfl (hb hby d5_71) rfl k) ?_
  show OGo p e below _ (s₁.setTop (mkF m 72 #[.val (.int (13 : Int32)), .val (.int (29 : Int32))] [(.int (((13 : Int32).toUInt32 >>> ((2 : Int32) &&& 31).toUInt32).toInt32))]))
  rw [(by decide : (((13 : Int32).toUInt32 >>> ((2 : Int32) &&& 31).toUInt32).toInt32) = (3 : Int32))]
  show OGo p e below _ (s₁.setTop (mkF m 72 #[.val (.int (13 : Int32)), .val (.int (29 : Int32))] [(.int (3 : Int32))]))
  refine OGo.by (fun _ k => XS.istoreN X0.here hx rfl (hb hby d5_72) rfl (l' := #[.val (.int (3 : Int32)), .val (.int (29 : Int32))]) rfl k) ?_
  show OGo p e below _ (s₁.setTop (mkF m 73 #[.val (.int (3 : Int32)), .val (.int (29 : Int32))] []))
  refine OGo.by (fun _ k => XS.iloadN X0.here hx rfl (hb hby d5_73) rfl k) ?_
  show OGo p e below _ (s₁.setTop (mkF m 74 #[.val (.int (3 : Int32)), .val (.int (29 : Int32))] [(.int (29 : Int32))]))
  refine OGo.by (fun _ k => XS.iloadN X0.here hx rfl (hb hby d5_74) rfl k) ?_
  show OGo p e below _ (s₁.setTop (mkF m 75 #[.val (.int (3 : Int32)), .val (.int (29 : Int32))] [(.int (3 : Int32)), (.int (29 : Int32))]))
  refine OGo.by (fun _ k => XS.iconst X0.here hx rfl (hb hby d5_75) k) ?_
  show OGo p e below _ (s₁.setTop (mkF m 76 #[.val (.int (3 : Int32)), .val (.int (29 : Int32))] [(.int (1 : Int32)), (.int (3 : Int32)), (.int (29 : Int32))]))
  refine OGo.by (fun _ k => XS.iushr X0.here hx rfl (hb hby d5_76) rfl k) ?_
  show OGo p e below _ (s₁.setTop (mkF m 77 #[.val (.int (3 : Int32)), .val (.int (29 : Int32))] [(.int (((3 : Int32).toUInt32 >>> ((1 : Int32) &&& 31).toUInt32).toInt32)), (.int (29 : Int32))]))
  rw [(by decide : (((3 : Int32).toUInt32 >>> ((1 : Int32) &&& 31).toUInt32).toInt32) = (1 : Int32))]
  show OGo p e below _ (s₁.setTop (mkF m 77 #[.val (.int (3 : Int32)), .val (.int (29 : Int32))] [(.int (1 : Int32)), (.int (29 : Int32))]))
  refine OGo.by (fun _ k => XS.isub X0.here hx rfl (hb hby d5_77) rfl k) ?_
  show OGo p e below _ (s₁.setTop (mkF m 78 #[.val (.int (3 : Int32)), .val (.int (29 : Int32))] [(.int (28 : Int32))]))
  obtain ⟨fs, hr, hrun, hended, hW, hsame⟩ := X0.leave (v := some (.int (28 : Int32))) (fun h => by rw [Bd.returns] at h; cases h)
  refine OGo.ret (retI X0 hx Bd.returns (hb hby d5_78) hr) hrun hended ⟨_, _, rfl, ?_, ⟨_, rfl⟩, hW, hsame.mono (by decide) (by decide)⟩
  show Q_rm_nzi13 Z  h0 n0 _ s₁.heap _
  rw [e0]
  exact ⟨rfl, N0, rfl⟩
theorem d4_0 : decode jdk_35_method_48_code 0 = .ok (.lload_n 0, 1) := by decide +kernel
theorem d4_1 : decode jdk_35_method_48_code 1 = .ok (.bipush 32, 2) := by decide +kernel
theorem d4_3 : decode jdk_35_method_48_code 3 = .ok (.lushr, 1) := by decide +kernel
theorem d4_4 : decode jdk_35_method_48_code 4 = .ok (.l2i, 1) := by decide +kernel
theorem d4_5 : decode jdk_35_method_48_code 5 = .ok (.istore_n 2, 1) := by decide +kernel
theorem d4_6 : decode jdk_35_method_48_code 6 = .ok (.iload_n 2, 1) := by decide +kernel
theorem d4_7 : decode jdk_35_method_48_code 7 = .ok (.ifCond .ne 14, 3) := by decide +kernel
theorem d4_10 : decode jdk_35_method_48_code 10 = .ok (.bipush 32, 2) := by decide +kernel
theorem d4_12 : decode jdk_35_method_48_code 12 = .ok (.lload_n 0, 1) := by decide +kernel
theorem d4_13 : decode jdk_35_method_48_code 13 = .ok (.l2i, 1) := by decide +kernel
theorem d4_14 : decode jdk_35_method_48_code 14 = .ok (.invokestatic 308, 3) := by decide +kernel
theorem own_pd0 : parseMethodDescriptor "(I)I" = some ⟨[.int], some .int⟩ := by decide +kernel
theorem d4_17 : decode jdk_35_method_48_code 17 = .ok (.iadd, 1) := by decide +kernel
theorem d4_18 : decode jdk_35_method_48_code 18 = .ok (.goto 7, 3) := by decide +kernel
theorem d4_25 : decode jdk_35_method_48_code 25 = .ok (.ireturn, 1) := by decide +kernel
theorem own_pn4 : plainName "java/lang/Long" = true := by first | (simp [plainName, overriddenIn]; done) | decide +kernel
theorem ef_rm_nzl7 (m : MethodId)  : entryFrame m #[(.long (7 : Int64))] 3 = mkF m 0 #[.val (.long (7 : Int64)), .second, .unset] [] := by first | (simp [entryFrame, mkF, argsToLocals, Value.category]; done) | rfl
def Q_rm_nzl7 (Z : State)  (h0 : Heap) (n0 : Nat) (v : Option Value) (h : Heap) (L : List Loc) : Prop := v = some (.int (61 : Int32)) ∧ Fr n0 L ∧ h = h0
set_option maxRecDepth 65536 in
set_option maxHeartbeats 40000000 in
theorem rm_nzl7 (l : Launch) (Z : State) (av0 : Array Value) (hw : ∀ d ∈ tables_1, d.before av0 Z = true) (ws : List Jvm.Cond)  (h0 : Heap) (n0 : Nat) (Z0 : n0 ≤ h0.size) :
    MetFree l (⟨"java/lang/Long", "numberOfLeadingZeros", "(J)I"⟩ : MethodName) (head1 (Jvm.Cond.code (⟨"java/lang/Long", "numberOfLeadingZeros", "(J)I"⟩ : MethodName) jdk_35_method_48_code 3 (some .int) :: ws) ({ frames := 1, cells := 0, slots := 0, locals := 14 } : Room)) (fun a U => a = #[(.long (7 : Int64))] ∧ Z.Warmed39 U.vm ∧ U.heap = h0) (fun _ _ _ _ _ => True) (fun _ U o U' => ∃ v L, o = .returned v ∧ Q_rm_nzl7 Z  h0 n0 v U'.heap L ∧ FrameEnd U o U' L ({ frames := 1, cells := 0, slots := 0, locals := 14 } : Room).cells ({ frames := 1, cells := 0, slots := 0, locals := 14 } : Room).slots) := by
  refine MetFree.of_bodySF (plainFor_of_name own_pn4) hisR ?_
  intro p e s m args below meth c s₁ Bd hml0 hP hK
  obtain ⟨rfl, hZ, hh⟩ := hP
  have hx := Bd.exec
  have hby := Bd.bytes
  have hml : c.maxLocals = 3 := hml0
  have hown : s.vm.findClass "java/lang/Long" = some m.cls := findClass_of_methodNamed Bd.named
  have hnm := (name_of_methodNamed Bd.named Bd.method).1
  have X0 : Stand p l e ({ frames := 1, cells := 0, slots := 0, locals := 14 } : Room) s m #[(.long (7 : Int64))] below meth c s₁ [] 0 0 := Stand.of_body Bd
  have e0 : s₁.heap = h0 := by rw [← hh, Bd.state]; rfl
  have N0 := Fr.nil n0
  refine OGo.by (P := fun U' o => ∃ v L, o = .returned v ∧ Q_rm_nzl7 Z  h0 n0 v U'.heap L ∧ FrameEnd s o U' L ({ frames := 1, cells := 0, slots := 0, locals := 14 } : Room).cells ({ frames := 1, cells := 0, slots := 0, locals := 14 } : Room).slots) (fun T_ k_ => castTop (ef_rm_nzl7 m ) k_) ?_
  show OGo p e below _ (s₁.setTop (mkF m 0 #[.val (.long (7 : Int64)), .second, .unset] []))
  refine OGo.by (fun _ k => XS.lloadN X0.here hx rfl (hb hby d4_0) rfl k) ?_
  show OGo p e below _ (s₁.setTop (mkF m 1 #[.val (.long (7 : Int64)), .second, .unset] [(.long (7 : Int64))]))
  refine OGo.by (fun _ k => XS.bipush X0.here hx rfl (hb hby d4_1) k) ?_
  show OGo p e below _ (s₁.setTop (mkF m 3 #[.val (.long (7 : Int64)), .second, .unset] [(.int (32 : Int32)), (.long (7 : Int64))]))
  refine OGo.by (fun _ k => XS.lushr X0.here hx rfl (hb hby d4_3) rfl k) ?_
  show OGo p e below _ (s₁.setTop (mkF m 4 #[.val (.long (7 : Int64)), .second, .unset] [(.long (((7 : Int64).toUInt64 >>> ((32 : Int32) &&& 0x3f).toInt64.toUInt64).toInt64))]))
  rw [(by decide : (((7 : Int64).toUInt64 >>> ((32 : Int32) &&& 0x3f).toInt64.toUInt64).toInt64) = (0 : Int64))]
  show OGo p e below _ (s₁.setTop (mkF m 4 #[.val (.long (7 : Int64)), .second, .unset] [(.long (0 : Int64))]))
  refine OGo.by (fun _ k => XS.l2i X0.here hx rfl (hb hby d4_4) rfl k) ?_
  show OGo p e below _ (s₁.setTop (mkF m 5 #[.val (.long (7 : Int64)), .second, .unset] [(.int ((0 : Int64).toInt32))]))
  rw [(by decide : ((0 : Int64).toInt32) = (0 : Int32))]
  show OGo p e below _ (s₁.setTop (mkF m 5 #[.val (.long (7 : Int64)), .second, .unset] [(.int (0 : Int32))]))
  refine OGo.by (fun _ k => XS.istoreN X0.here hx rfl (hb hby d4_5) rfl (l' := #[.val (.long (7 : Int64)), .second, .val (.int (0 : Int32))]) rfl k) ?_
  show OGo p e below _ (s₁.setTop (mkF m 6 #[.val (.long (7 : Int64)), .second, .val (.int (0 : Int32))] []))
  refine OGo.by (fun _ k => XS.iloadN X0.here hx rfl (hb hby d4_6) rfl k) ?_
  show OGo p e below _ (s₁.setTop (mkF m 7 #[.val (.long (7 : Int64)), .second, .val (.int (0 : Int32))] [(.int (0 : Int32))]))
  refine OGo.by (fun _ k => XS.ifNo X0.here hx rfl (hb hby d4_7) rfl ((if0 _ _).trans (teq (by decide : (0 : Int32) = (0 : Int32))).2) k) ?_
  show OGo p e below _ (s₁.setTop (mkF m 10 #[.val (.long (7 : Int64)), .second, .val (.int (0 : Int32))] []))
  refine OGo.by (fun _ k => XS.bipush X0.here hx rfl (hb hby d4_10) k) ?_
  show OGo p e below _ (s₁.setTop (mkF m 12 #[.val (.long (7 : Int64)), .second, .val (.int (0 : Int32))] [(.int (32 : Int32))]))
  refine OGo.by (fun _ k => XS.lloadN X0.here hx rfl (hb hby d4_12) rfl k) ?_
  show OGo p e below _ (s₁.setTop (mkF m 13 #[.val (.long (7 : Int64)), .second, .val (.int (0 : Int32))] [(.long (7 : Int64)), (.int (32 : Int32))]))
  refine OGo.by (fun _ k => XS.l2i X0.here hx rfl (hb hby d4_13) rfl k) ?_
  show OGo p e below _ (s₁.setTop (mkF m 14 #[.val (.long (7 : Int64)), .second, .val (.int (0 : Int32))] [(.int ((7 : Int64).toInt32)), (.int (32 : Int32))]))
  rw [(by decide : ((7 : Int64).toInt32) = (7 : Int32))]
  show OGo p e below _ (s₁.setTop (mkF m 14 #[.val (.long (7 : Int64)), .second, .val (.int (0 : Int32))] [(.int (7 : Int32)), (.int (32 : Int32))]))
  have H1 := Jvm.LawKit.callS X0 hx (y := (⟨"java/lang/Integer", "numberOfLeadingZeros", "(I)I"⟩ : MethodName)) hown (mvT hZ (hw _ (List.mem_of_getElem? (i := 22) rfl))) (mvT hZ (hw _ (List.mem_of_getElem? (i := 23) rfl))) (mvT hZ (hw _ (List.mem_of_getElem? (i := 24) rfl))) (mvT hZ (hw _ (List.mem_of_getElem? (i := 25) rfl))) (by decide) (backOf (W := 1) (rm_nzi7 l Z av0 hw [] h0 n0 Z0) hZ (hw _ (List.mem_of_getElem? (i := 25) rfl)) (hw _ (List.mem_of_getElem? (i := 24) rfl)) (by decide) (by decide)) (g := (mkF m 14 #[.val (.long (7 : Int64)), .second, .val (.int (0 : Int32))] [(.int (7 : Int32)), (.int (32 : Int32))])) rfl (by rw [hml]; rfl) (argsL := [(.int (7 : Int32))]) (rest := [(.int (32 : Int32))]) (lenOf own_pd0 rfl) rfl (by show 2 * 0 + _ ≤ _; exact Nat.le_of_eq rfl) (hb hby d4_14) (fun _ _ => ⟨rfl, e0, (by decide : 0 + 0 ≤ _), (by decide : 0 + 0 ≤ _)⟩)
  refine own_cpsP H1 (c' := 0) (s' := 0) rfl rfl N0 (r := (some (.int (29 : Int32)))) (h1 := h0) (fun _ _ _ q => q) ?_
  clear H1
  intro T1 L1 X1 N1 e1
  show OGo p e below _ (T1.setTop (mkF m 17 #[.val (.long (7 : Int64)), .second, .val (.int (0 : Int32))] [(.int (29 : Int32)), (.int (32 : Int32))]))
  refine OGo.by (fun _ k => XS.iadd X1.here hx rfl (hb hby d4_17) rfl k) ?_
  show OGo p e below _ (T1.setTop (mkF m 18 #[.val (.long (7 : Int64)), .second, .val (.int (0 : Int32))] [(.int (61 : Int32))]))
  refine OGo.by (fun _ k => XS.goto X1.here hx rfl (pc0 := 18) (pc' := 25) rfl (hb hby d4_18) (by decide) (by decide) k) ?_
  show OGo p e below _ (T1.setTop (mkF m 25 #[.val (.long (7 : Int64)), .second, .val (.int (0 : Int32))] [(.int (61 : Int32))]))
  obtain ⟨fs, hr, hrun, hended, hW, hsame⟩ := X1.leave (v := some (.int (61 : Int32))) (fun h => by rw [Bd.returns] at h; cases h)
  refine OGo.ret (retI X1 hx Bd.returns (hb hby d4_25) hr) hrun hended ⟨_, _, rfl, ?_, ⟨_, rfl⟩, hW, hsame.mono (by decide) (by decide)⟩
  show Q_rm_nzl7 Z  h0 n0 _ T1.heap _
  rw [e1]
  exact ⟨rfl, N1, rfl⟩
theorem ef_rm_nzl9 (m : MethodId)  : entryFrame m #[(.long (9 : Int64))] 3 = mkF m 0 #[.val (.long (9 : Int64)), .second, .unset] [] := by first | (simp [entryFrame, mkF, argsToLocals, Value.category]; done) | rfl
def Q_rm_nzl9 (Z : State)  (h0 : Heap) (n0 : Nat) (v : Option Value) (h : Heap) (L : List Loc) : Prop := v = some (.int (60 : Int32)) ∧ Fr n0 L ∧ h = h0
set_option maxRecDepth 65536 in
set_option maxHeartbeats 40000000 in
theorem rm_nzl9 (l : Launch) (Z : State) (av0 : Array Value) (hw : ∀ d ∈ tables_1, d.before av0 Z = true) (ws : List Jvm.Cond)  (h0 : Heap) (n0 : Nat) (Z0 : n0 ≤ h0.size) :
    MetFree l (⟨"java/lang/Long", "numberOfLeadingZeros", "(J)I"⟩ : MethodName) (head1 (Jvm.Cond.code (⟨"java/lang/Long", "numberOfLeadingZeros", "(J)I"⟩ : MethodName) jdk_35_method_48_code 3 (some .int) :: ws) ({ frames := 1, cells := 0, slots := 0, locals := 14 } : Room)) (fun a U => a = #[(.long (9 : Int64))] ∧ Z.Warmed39 U.vm ∧ U.heap = h0) (fun _ _ _ _ _ => True) (fun _ U o U' => ∃ v L, o = .returned v ∧ Q_rm_nzl9 Z  h0 n0 v U'.heap L ∧ FrameEnd U o U' L ({ frames := 1, cells := 0, slots := 0, locals := 14 } : Room).cells ({ frames := 1, cells := 0, slots := 0, locals := 14 } : Room).slots) := by
  refine MetFree.of_bodySF (plainFor_of_name own_pn4) hisR ?_
  intro p e s m args below meth c s₁ Bd hml0 hP hK
  obtain ⟨rfl, hZ, hh⟩ := hP
  have hx := Bd.exec
  have hby := Bd.bytes
  have hml : c.maxLocals = 3 := hml0
  have hown : s.vm.findClass "java/lang/Long" = some m.cls := findClass_of_methodNamed Bd.named
  have hnm := (name_of_methodNamed Bd.named Bd.method).1
  have X0 : Stand p l e ({ frames := 1, cells := 0, slots := 0, locals := 14 } : Room) s m #[(.long (9 : Int64))] below meth c s₁ [] 0 0 := Stand.of_body Bd
  have e0 : s₁.heap = h0 := by rw [← hh, Bd.state]; rfl
  have N0 := Fr.nil n0
  refine OGo.by (P := fun U' o => ∃ v L, o = .returned v ∧ Q_rm_nzl9 Z  h0 n0 v U'.heap L ∧ FrameEnd s o U' L ({ frames := 1, cells := 0, slots := 0, locals := 14 } : Room).cells ({ frames := 1, cells := 0, slots := 0, locals := 14 } : Room).slots) (fun T_ k_ => castTop (ef_rm_nzl9 m ) k_) ?_
  show OGo p e below _ (s₁.setTop (mkF m 0 #[.val (.long (9 : Int64)), .second, .unset] []))
  refine OGo.by (fun _ k => XS.lloadN X0.here hx rfl (hb hby d4_0) rfl k) ?_
  show OGo p e below _ (s₁.setTop (mkF m 1 #[.val (.long (9 : Int64)), .second, .unset] [(.long (9 : Int64))]))
  refine OGo.by (fun _ k => XS.bipush X0.here hx rfl (hb hby d4_1) k) ?_
  show OGo p e below _ (s₁.setTop (mkF m 3 #[.val (.long (9 : Int64)), .second, .unset] [(.int (32 : Int32)), (.long (9 : Int64))]))
  refine OGo.by (fun _ k => XS.lushr X0.here hx rfl (hb hby d4_3) rfl k) ?_
  show OGo p e below _ (s₁.setTop (mkF m 4 #[.val (.long (9 : Int64)), .second, .unset] [(.long (((9 : Int64).toUInt64 >>> ((32 : Int32) &&& 0x3f).toInt64.toUInt64).toInt64))]))
  rw [(by decide : (((9 : Int64).toUInt64 >>> ((32 : Int32) &&& 0x3f).toInt64.toUInt64).toInt64) = (0 : Int64))]
  show OGo p e below _ (s₁.setTop (mkF m 4 #[.val (.long (9 : Int64)), .second, .unset] [(.long (0 : Int64))]))
  refine OGo.by (fun _ k => XS.l2i X0.here hx rfl (hb hby d4_4) rfl k) ?_
  show OGo p e below _ (s₁.setTop (mkF m 5 #[.val (.long (9 : Int64)), .second, .unset] [(.int ((0 : Int64).toInt32))]))
  rw [(by decide : ((0 : Int64).toInt32) = (0 : Int32))]
  show OGo p e below _ (s₁.setTop (mkF m 5 #[.val (.long (9 : Int64)), .second, .unset] [(.int (0 : Int32))]))
  refine OGo.by (fun _ k => XS.istoreN X0.here hx rfl (hb hby d4_5) rfl (l' := #[.val (.long (9 : Int64)), .second, .val (.int (0 : Int32))]) rfl k) ?_
  show OGo p e below _ (s₁.setTop (mkF m 6 #[.val (.long (9 : Int64)), .second, .val (.int (0 : Int32))] []))
  refine OGo.by (fun _ k => XS.iloadN X0.here hx rfl (hb hby d4_6) rfl k) ?_
  show OGo p e below _ (s₁.setTop (mkF m 7 #[.val (.long (9 : Int64)), .second, .val (.int (0 : Int32))] [(.int (0 : Int32))]))
  refine OGo.by (fun _ k => XS.ifNo X0.here hx rfl (hb hby d4_7) rfl ((if0 _ _).trans (teq (by decide : (0 : Int32) = (0 : Int32))).2) k) ?_
  show OGo p e below _ (s₁.setTop (mkF m 10 #[.val (.long (9 : Int64)), .second, .val (.int (0 : Int32))] []))
  refine OGo.by (fun _ k => XS.bipush X0.here hx rfl (hb hby d4_10) k) ?_
  show OGo p e below _ (s₁.setTop (mkF m 12 #[.val (.long (9 : Int64)), .second, .val (.int (0 : Int32))] [(.int (32 : Int32))]))
  refine OGo.by (fun _ k => XS.lloadN X0.here hx rfl (hb hby d4_12) rfl k) ?_
  show OGo p e below _ (s₁.setTop (mkF m 13 #[.val (.long (9 : Int64)), .second, .val (.int (0 : Int32))] [(.long (9 : Int64)), (.int (32 : Int32))]))
  refine OGo.by (fun _ k => XS.l2i X0.here hx rfl (hb hby d4_13) rfl k) ?_
  show OGo p e below _ (s₁.setTop (mkF m 14 #[.val (.long (9 : Int64)), .second, .val (.int (0 : Int32))] [(.int ((9 : Int64).toInt32)), (.int (32 : Int32))]))
  rw [(by decide : ((9 : Int64).toInt32) = (9 : Int32))]
  show OGo p e below _ (s₁.setTop (mkF m 14 #[.val (.long (9 : Int64)), .second, .val (.int (0 : Int32))] [(.int (9 : Int32)), (.int (32 : Int32))]))
  have H1 := Jvm.LawKit.callS X0 hx (y := (⟨"java/lang/Integer", "numberOfLeadingZeros", "(I)I"⟩ : MethodName)) hown (mvT hZ (hw _ (List.mem_of_getElem? (i := 22) rfl))) (mvT hZ (hw _ (List.mem_of_getElem? (i := 23) rfl))) (mvT hZ (hw _ (List.mem_of_getElem? (i := 24) rfl))) (mvT hZ (hw _ (List.mem_of_getElem? (i := 25) rfl))) (by decide) (backOf (W := 1) (rm_nzi9 l Z av0 hw [] h0 n0 Z0) hZ (hw _ (List.mem_of_getElem? (i := 25) rfl)) (hw _ (List.mem_of_getElem? (i := 24) rfl)) (by decide) (by decide)) (g := (mkF m 14 #[.val (.long (9 : Int64)), .second, .val (.int (0 : Int32))] [(.int (9 : Int32)), (.int (32 : Int32))])) rfl (by rw [hml]; rfl) (argsL := [(.int (9 : Int32))]) (rest := [(.int (32 : Int32))]) (lenOf own_pd0 rfl) rfl (by show 2 * 0 + _ ≤ _; exact Nat.le_of_eq rfl) (hb hby d4_14) (fun _ _ => ⟨rfl, e0, (by decide : 0 + 0 ≤ _), (by decide : 0 + 0 ≤ _)⟩)
  refine own_cpsP H1 (c' := 0) (s' := 0) rfl rfl N0 (r := (some (.int (28 : Int32)))) (h1 := h0) (fun _ _ _ q => q) ?_
  clear H1
  intro T1 L1 X1 N1 e1
  show OGo p e below _ (T1.setTop (mkF m 17 #[.val (.long (9 : Int64)), .second, .val (.int (0 : Int32))] [(.int (28 : Int32)), (.int (32 : Int32))]))
  refine OGo.by (fun _ k => XS.iadd X1.here hx rfl (hb hby d4_17) rfl k) ?_
  show OGo p e below _ (T1.setTop (mkF m 18 #[.val (.long (9 : Int64)), .second, .val (.int (0 : Int32))] [(.int (60 : Int32))]))
  refine OGo.by (fun _ k => XS.goto X1.here hx rfl (pc0 := 18) (pc' := 25) rfl (hb hby d4_18) (by decide) (by decide) k) ?_
  show OGo p e below _ (T1.setTop (mkF m 25 #[.val (.long (9 : Int64)), .second, .val (.int (0 : Int32))] [(.int (60 : Int32))]))
  obtain ⟨fs, hr, hrun, hended, hW, hsame⟩ := X1.leave (v := some (.int (60 : Int32))) (fun h => by rw [Bd.returns] at h; cases h)
  refine OGo.ret (retI X1 hx Bd.returns (hb hby d4_25) hr) hrun hended ⟨_, _, rfl, ?_, ⟨_, rfl⟩, hW, hsame.mono (by decide) (by decide)⟩
  show Q_rm_nzl9 Z  h0 n0 _ T1.heap _
  rw [e1]
  exact ⟨rfl, N1, rfl⟩
theorem ef_rm_nzl11 (m : MethodId)  : entryFrame m #[(.long (11 : Int64))] 3 = mkF m 0 #[.val (.long (11 : Int64)), .second, .unset] [] := by first | (simp [entryFrame, mkF, argsToLocals, Value.category]; done) | rfl
def Q_rm_nzl11 (Z : State)  (h0 : Heap) (n0 : Nat) (v : Option Value) (h : Heap) (L : List Loc) : Prop := v = some (.int (60 : Int32)) ∧ Fr n0 L ∧ h = h0
set_option maxRecDepth 65536 in
set_option maxHeartbeats 40000000 in
theorem rm_nzl11 (l : Launch) (Z : State) (av0 : Array Value) (hw : ∀ d ∈ tables_1, d.before av0 Z = true) (ws : List Jvm.Cond)  (h0 : Heap) (n0 : Nat) (Z0 : n0 ≤ h0.size) :
    MetFree l (⟨"java/lang/Long", "numberOfLeadingZeros", "(J)I"⟩ : MethodName) (head1 (Jvm.Cond.code (⟨"java/lang/Long", "numberOfLeadingZeros", "(J)I"⟩ : MethodName) jdk_35_method_48_code 3 (some .int) :: ws) ({ frames := 1, cells := 0, slots := 0, locals := 14 } : Room)) (fun a U => a = #[(.long (11 : Int64))] ∧ Z.Warmed39 U.vm ∧ U.heap = h0) (fun _ _ _ _ _ => True) (fun _ U o U' => ∃ v L, o = .returned v ∧ Q_rm_nzl11 Z  h0 n0 v U'.heap L ∧ FrameEnd U o U' L ({ frames := 1, cells := 0, slots := 0, locals := 14 } : Room).cells ({ frames := 1, cells := 0, slots := 0, locals := 14 } : Room).slots) := by
  refine MetFree.of_bodySF (plainFor_of_name own_pn4) hisR ?_
  intro p e s m args below meth c s₁ Bd hml0 hP hK
  obtain ⟨rfl, hZ, hh⟩ := hP
  have hx := Bd.exec
  have hby := Bd.bytes
  have hml : c.maxLocals = 3 := hml0
  have hown : s.vm.findClass "java/lang/Long" = some m.cls := findClass_of_methodNamed Bd.named
  have hnm := (name_of_methodNamed Bd.named Bd.method).1
  have X0 : Stand p l e ({ frames := 1, cells := 0, slots := 0, locals := 14 } : Room) s m #[(.long (11 : Int64))] below meth c s₁ [] 0 0 := Stand.of_body Bd
  have e0 : s₁.heap = h0 := by rw [← hh, Bd.state]; rfl
  have N0 := Fr.nil n0
  refine OGo.by (P := fun U' o => ∃ v L, o = .returned v ∧ Q_rm_nzl11 Z  h0 n0 v U'.heap L ∧ FrameEnd s o U' L ({ frames := 1, cells := 0, slots := 0, locals := 14 } : Room).cells ({ frames := 1, cells := 0, slots := 0, locals := 14 } : Room).slots) (fun T_ k_ => castTop (ef_rm_nzl11 m ) k_) ?_
  show OGo p e below _ (s₁.setTop (mkF m 0 #[.val (.long (11 : Int64)), .second, .unset] []))
  refine OGo.by (fun _ k => XS.lloadN X0.here hx rfl (hb hby d4_0) rfl k) ?_
  show OGo p e below _ (s₁.setTop (mkF m 1 #[.val (.long (11 : Int64)), .second, .unset] [(.long (11 : Int64))]))
  refine OGo.by (fun _ k => XS.bipush X0.here hx rfl (hb hby d4_1) k) ?_
  show OGo p e below _ (s₁.setTop (mkF m 3 #[.val (.long (11 : Int64)), .second, .unset] [(.int (32 : Int32)), (.long (11 : Int64))]))
  refine OGo.by (fun _ k => XS.lushr X0.here hx rfl (hb hby d4_3) rfl k) ?_
  show OGo p e below _ (s₁.setTop (mkF m 4 #[.val (.long (11 : Int64)), .second, .unset] [(.long (((11 : Int64).toUInt64 >>> ((32 : Int32) &&& 0x3f).toInt64.toUInt64).toInt64))]))
  rw [(by decide : (((11 : Int64).toUInt64 >>> ((32 : Int32) &&& 0x3f).toInt64.toUInt64).toInt64) = (0 : Int64))]
  show OGo p e below _ (s₁.setTop (mkF m 4 #[.val (.long (11 : Int64)), .second, .unset] [(.long (0 : Int64))]))
  refine OGo.by (fun _ k => XS.l2i X0.here hx rfl (hb hby d4_4) rfl k) ?_
  show OGo p e below _ (s₁.setTop (mkF m 5 #[.val (.long (11 : Int64)), .second, .unset] [(.int ((0 : Int64).toInt32))]))
  rw [(by decide : ((0 : Int64).toInt32) = (0 : Int32))]
  show OGo p e below _ (s₁.setTop (mkF m 5 #[.val (.long (11 : Int64)), .second, .unset] [(.int (0 : Int32))]))
  refine OGo.by (fun _ k => XS.istoreN X0.here hx rfl (hb hby d4_5) rfl (l' := #[.val (.long (11 : Int64)), .second, .val (.int (0 : Int32))]) rfl k) ?_
  show OGo p e below _ (s₁.setTop (mkF m 6 #[.val (.long (11 : Int64)), .second, .val (.int (0 : Int32))] []))
  refine OGo.by (fun _ k => XS.iloadN X0.here hx rfl (hb hby d4_6) rfl k) ?_
  show OGo p e below _ (s₁.setTop (mkF m 7 #[.val (.long (11 : Int64)), .second, .val (.int (0 : Int32))] [(.int (0 : Int32))]))
  refine OGo.by (fun _ k => XS.ifNo X0.here hx rfl (hb hby d4_7) rfl ((if0 _ _).trans (teq (by decide : (0 : Int32) = (0 : Int32))).2) k) ?_
  show OGo p e below _ (s₁.setTop (mkF m 10 #[.val (.long (11 : Int64)), .second, .val (.int (0 : Int32))] []))
  refine OGo.by (fun _ k => XS.bipush X0.here hx rfl (hb hby d4_10) k) ?_
  show OGo p e below _ (s₁.setTop (mkF m 12 #[.val (.long (11 : Int64)), .second, .val (.int (0 : Int32))] [(.int (32 : Int32))]))
  refine OGo.by (fun _ k => XS.lloadN X0.here hx rfl (hb hby d4_12) rfl k) ?_
  show OGo p e below _ (s₁.setTop (mkF m 13 #[.val (.long (11 : Int64)), .second, .val (.int (0 : Int32))] [(.long (11 : Int64)), (.int (32 : Int32))]))
  refine OGo.by (fun _ k => XS.l2i X0.here hx rfl (hb hby d4_13) rfl k) ?_
  show OGo p e below _ (s₁.setTop (mkF m 14 #[.val (.long (11 : Int64)), .second, .val (.int (0 : Int32))] [(.int ((11 : Int64).toInt32)), (.int (32 : Int32))]))
  rw [(by decide : ((11 : Int64).toInt32) = (11 : Int32))]
  show OGo p e below _ (s₁.setTop (mkF m 14 #[.val (.long (11 : Int64)), .second, .val (.int (0 : Int32))] [(.int (11 : Int32)), (.int (32 : Int32))]))
  have H1 := Jvm.LawKit.callS X0 hx (y := (⟨"java/lang/Integer", "numberOfLeadingZeros", "(I)I"⟩ : MethodName)) hown (mvT hZ (hw _ (List.mem_of_getElem? (i := 22) rfl))) (mvT hZ (hw _ (List.mem_of_getElem? (i := 23) rfl))) (mvT hZ (hw _ (List.mem_of_getElem? (i := 24) rfl))) (mvT hZ (hw _ (List.mem_of_getElem? (i := 25) rfl))) (by decide) (backOf (W := 1) (rm_nzi11 l Z av0 hw [] h0 n0 Z0) hZ (hw _ (List.mem_of_getElem? (i := 25) rfl)) (hw _ (List.mem_of_getElem? (i := 24) rfl)) (by decide) (by decide)) (g := (mkF m 14 #[.val (.long (11 : Int64)), .second, .val (.int (0 : Int32))] [(.int (11 : Int32)), (.int (32 : Int32))])) rfl (by rw [hml]; rfl) (argsL := [(.int (11 : Int32))]) (rest := [(.int (32 : Int32))]) (lenOf own_pd0 rfl) rfl (by show 2 * 0 + _ ≤ _; exact Nat.le_of_eq rfl) (hb hby d4_14) (fun _ _ => ⟨rfl, e0, (by decide : 0 + 0 ≤ _), (by decide : 0 + 0 ≤ _)⟩)
  refine own_cpsP H1 (c' := 0) (s' := 0) rfl rfl N0 (r := (some (.int (28 : Int32)))) (h1 := h0) (fun _ _ _ q => q) ?_
  clear H1
  intro T1 L1 X1 N1 e1
  show OGo p e below _ (T1.setTop (mkF m 17 #[.val (.long (11 : Int64)), .second, .val (.int (0 : Int32))] [(.int (28 : Int32)), (.int (32 : Int32))]))
  refine OGo.by (fun _ k => XS.iadd X1.here hx rfl (hb hby d4_17) rfl k) ?_
  show OGo p e below _ (T1.setTop (mkF m 18 #[.val (.long (11 : Int64)), .second, .val (.int (0 : Int32))] [(.int (60 : Int32))]))
  refine OGo.by (fun _ k => XS.goto X1.here hx rfl (pc0 := 18) (pc' := 25) rfl (hb hby d4_18) (by decide) (by decide) k) ?_
  show OGo p e below _ (T1.setTop (mkF m 25 #[.val (.long (11 : Int64)), .second, .val (.int (0 : Int32))] [(.int (60 : Int32))]))
  obtain ⟨fs, hr, hrun, hended, hW, hsame⟩ := X1.leave (v := some (.int (60 : Int32))) (fun h => by rw [Bd.returns] at h; cases h)
  refine OGo.ret (retI X1 hx Bd.returns (hb hby d4_25) hr) hrun hended ⟨_, _, rfl, ?_, ⟨_, rfl⟩, hW, hsame.mono (by decide) (by decide)⟩
  show Q_rm_nzl11 Z  h0 n0 _ T1.heap _
  rw [e1]
  exact ⟨rfl, N1, rfl⟩
theorem ef_rm_nzl13 (m : MethodId)  : entryFrame m #[(.long (13 : Int64))] 3 = mkF m 0 #[.val (.long (13 : Int64)), .second, .unset] [] := by first | (simp [entryFrame, mkF, argsToLocals, Value.category]; done) | rfl
def Q_rm_nzl13 (Z : State)  (h0 : Heap) (n0 : Nat) (v : Option Value) (h : Heap) (L : List Loc) : Prop := v = some (.int (60 : Int32)) ∧ Fr n0 L ∧ h = h0
set_option maxRecDepth 65536 in
set_option maxHeartbeats 40000000 in
theorem rm_nzl13 (l : Launch) (Z : State) (av0 : Array Value) (hw : ∀ d ∈ tables_1, d.before av0 Z = true) (ws : List Jvm.Cond)  (h0 : Heap) (n0 : Nat) (Z0 : n0 ≤ h0.size) :
    MetFree l (⟨"java/lang/Long", "numberOfLeadingZeros", "(J)I"⟩ : MethodName) (head1 (Jvm.Cond.code (⟨"java/lang/Long", "numberOfLeadingZeros", "(J)I"⟩ : MethodName) jdk_35_method_48_code 3 (some .int) :: ws) ({ frames := 1, cells := 0, slots := 0, locals := 14 } : Room)) (fun a U => a = #[(.long (13 : Int64))] ∧ Z.Warmed39 U.vm ∧ U.heap = h0) (fun _ _ _ _ _ => True) (fun _ U o U' => ∃ v L, o = .returned v ∧ Q_rm_nzl13 Z  h0 n0 v U'.heap L ∧ FrameEnd U o U' L ({ frames := 1, cells := 0, slots := 0, locals := 14 } : Room).cells ({ frames := 1, cells := 0, slots := 0, locals := 14 } : Room).slots) := by
  refine MetFree.of_bodySF (plainFor_of_name own_pn4) hisR ?_
  intro p e s m args below meth c s₁ Bd hml0 hP hK
  obtain ⟨rfl, hZ, hh⟩ := hP
  have hx := Bd.exec
  have hby := Bd.bytes
  have hml : c.maxLocals = 3 := hml0
  have hown : s.vm.findClass "java/lang/Long" = some m.cls := findClass_of_methodNamed Bd.named
  have hnm := (name_of_methodNamed Bd.named Bd.method).1
  have X0 : Stand p l e ({ frames := 1, cells := 0, slots := 0, locals := 14 } : Room) s m #[(.long (13 : Int64))] below meth c s₁ [] 0 0 := Stand.of_body Bd
  have e0 : s₁.heap = h0 := by rw [← hh, Bd.state]; rfl
  have N0 := Fr.nil n0
  refine OGo.by (P := fun U' o => ∃ v L, o = .returned v ∧ Q_rm_nzl13 Z  h0 n0 v U'.heap L ∧ FrameEnd s o U' L ({ frames := 1, cells := 0, slots := 0, locals := 14 } : Room).cells ({ frames := 1, cells := 0, slots := 0, locals := 14 } : Room).slots) (fun T_ k_ => castTop (ef_rm_nzl13 m ) k_) ?_
  show OGo p e below _ (s₁.setTop (mkF m 0 #[.val (.long (13 : Int64)), .second, .unset] []))
  refine OGo.by (fun _ k => XS.lloadN X0.here hx rfl (hb hby d4_0) rfl k) ?_
  show OGo p e below _ (s₁.setTop (mkF m 1 #[.val (.long (13 : Int64)), .second, .unset] [(.long (13 : Int64))]))
  refine OGo.by (fun _ k => XS.bipush X0.here hx rfl (hb hby d4_1) k) ?_
  show OGo p e below _ (s₁.setTop (mkF m 3 #[.val (.long (13 : Int64)), .second, .unset] [(.int (32 : Int32)), (.long (13 : Int64))]))
  refine OGo.by (fun _ k => XS.lushr X0.here hx rfl (hb hby d4_3) rfl k) ?_
  show OGo p e below _ (s₁.setTop (mkF m 4 #[.val (.long (13 : Int64)), .second, .unset] [(.long (((13 : Int64).toUInt64 >>> ((32 : Int32) &&& 0x3f).toInt64.toUInt64).toInt64))]))
  rw [(by decide : (((13 : Int64).toUInt64 >>> ((32 : Int32) &&& 0x3f).toInt64.toUInt64).toInt64) = (0 : Int64))]
  show OGo p e below _ (s₁.setTop (mkF m 4 #[.val (.long (13 : Int64)), .second, .unset] [(.long (0 : Int64))]))
  refine OGo.by (fun _ k => XS.l2i X0.here hx rfl (hb hby d4_4) rfl k) ?_
  show OGo p e below _ (s₁.setTop (mkF m 5 #[.val (.long (13 : Int64)), .second, .unset] [(.int ((0 : Int64).toInt32))]))
  rw [(by decide : ((0 : Int64).toInt32) = (0 : Int32))]
  show OGo p e below _ (s₁.setTop (mkF m 5 #[.val (.long (13 : Int64)), .second, .unset] [(.int (0 : Int32))]))
  refine OGo.by (fun _ k => XS.istoreN X0.here hx rfl (hb hby d4_5) rfl (l' := #[.val (.long (13 : Int64)), .second, .val (.int (0 : Int32))]) rfl k) ?_
  show OGo p e below _ (s₁.setTop (mkF m 6 #[.val (.long (13 : Int64)), .second, .val (.int (0 : Int32))] []))
  refine OGo.by (fun _ k => XS.iloadN X0.here hx rfl (hb hby d4_6) rfl k) ?_
  show OGo p e below _ (s₁.setTop (mkF m 7 #[.val (.long (13 : Int64)), .second, .val (.int (0 : Int32))] [(.int (0 : Int32))]))
  refine OGo.by (fun _ k => XS.ifNo X0.here hx rfl (hb hby d4_7) rfl ((if0 _ _).trans (teq (by decide : (0 : Int32) = (0 : Int32))).2) k) ?_
  show OGo p e below _ (s₁.setTop (mkF m 10 #[.val (.long (13 : Int64)), .second, .val (.int (0 : Int32))] []))
  refine OGo.by (fun _ k => XS.bipush X0.here hx rfl (hb hby d4_10) k) ?_
  show OGo p e below _ (s₁.setTop (mkF m 12 #[.val (.long (13 : Int64)), .second, .val (.int (0 : Int32))] [(.int (32 : Int32))]))
  refine OGo.by (fun _ k => XS.lloadN X0.here hx rfl (hb hby d4_12) rfl k) ?_
  show OGo p e below _ (s₁.setTop (mkF m 13 #[.val (.long (13 : Int64)), .second, .val (.int (0 : Int32))] [(.long (13 : Int64)), (.int (32 : Int32))]))
  refine OGo.by (fun _ k => XS.l2i X0.here hx rfl (hb hby d4_13) rfl k) ?_
  show OGo p e below _ (s₁.setTop (mkF m 14 #[.val (.long (13 : Int64)), .second, .val (.int (0 : Int32))] [(.int ((13 : Int64).toInt32)), (.int (32 : Int32))]))
  rw [(by decide : ((13 : Int64).toInt32) = (13 : Int32))]
  show OGo p e below _ (s₁.setTop (mkF m 14 #[.val (.long (13 : Int64)), .second, .val (.int (0 : Int32))] [(.int (13 : Int32)), (.int (32 : Int32))]))
  have H1 := Jvm.LawKit.callS X0 hx (y := (⟨"java/lang/Integer", "numberOfLeadingZeros", "(I)I"⟩ : MethodName)) hown (mvT hZ (hw _ (List.mem_of_getElem? (i := 22) rfl))) (mvT hZ (hw _ (List.mem_of_getElem? (i := 23) rfl))) (mvT hZ (hw _ (List.mem_of_getElem? (i := 24) rfl))) (mvT hZ (hw _ (List.mem_of_getElem? (i := 25) rfl))) (by decide) (backOf (W := 1) (rm_nzi13 l Z av0 hw [] h0 n0 Z0) hZ (hw _ (List.mem_of_getElem? (i := 25) rfl)) (hw _ (List.mem_of_getElem? (i := 24) rfl)) (by decide) (by decide)) (g := (mkF m 14 #[.val (.long (13 : Int64)), .second, .val (.int (0 : Int32))] [(.int (13 : Int32)), (.int (32 : Int32))])) rfl (by rw [hml]; rfl) (argsL := [(.int (13 : Int32))]) (rest := [(.int (32 : Int32))]) (lenOf own_pd0 rfl) rfl (by show 2 * 0 + _ ≤ _; exact Nat.le_of_eq rfl) (hb hby d4_14) (fun _ _ => ⟨rfl, e0, (by decide : 0 + 0 ≤ _), (by decide : 0 + 0 ≤ _)⟩)
  refine own_cpsP H1 (c' := 0) (s' := 0) rfl rfl N0 (r := (some (.int (28 : Int32)))) (h1 := h0) (fun _ _ _ q => q) ?_
  clear H1
  intro T1 L1 X1 N1 e1
  show OGo p e below _ (T1.setTop (mkF m 17 #[.val (.long (13 : Int64)), .second, .val (.int (0 : Int32))] [(.int (28 : Int32)), (.int (32 : Int32))]))
  refine OGo.by (fun _ k => XS.iadd X1.here hx rfl (hb hby d4_17) rfl k) ?_
  show OGo p e below _ (T1.setTop (mkF m 18 #[.val (.long (13 : Int64)), .second, .val (.int (0 : Int32))] [(.int (60 : Int32))]))
  refine OGo.by (fun _ k => XS.goto X1.here hx rfl (pc0 := 18) (pc' := 25) rfl (hb hby d4_18) (by decide) (by decide) k) ?_
  show OGo p e below _ (T1.setTop (mkF m 25 #[.val (.long (13 : Int64)), .second, .val (.int (0 : Int32))] [(.int (60 : Int32))]))
  obtain ⟨fs, hr, hrun, hended, hW, hsame⟩ := X1.leave (v := some (.int (60 : Int32))) (fun h => by rw [Bd.returns] at h; cases h)
  refine OGo.ret (retI X1 hx Bd.returns (hb hby d4_25) hr) hrun hended ⟨_, _, rfl, ?_, ⟨_, rfl⟩, hW, hsame.mono (by decide) (by decide)⟩
  show Q_rm_nzl13 Z  h0 n0 _ T1.heap _
  rw [e1]
  exact ⟨rfl, N1, rfl⟩
theorem d3_0 : decode jdk_29_method_66_code 0 = .ok (.lload_n 0, 1) := by decide +kernel
theorem d3_1 : decode jdk_29_method_66_code 1 = .ok (.lload_n 2, 1) := by decide +kernel
theorem d3_2 : decode jdk_29_method_66_code 2 = .ok (.lcmp, 1) := by decide +kernel
theorem d3_3 : decode jdk_29_method_66_code 3 = .ok (.ifCond .lt 7, 3) := by decide +kernel
theorem d3_10 : decode jdk_29_method_66_code 10 = .ok (.lload_n 2, 1) := by decide +kernel
theorem d3_11 : decode jdk_29_method_66_code 11 = .ok (.lreturn, 1) := by decide +kernel
theorem ef_rm_mx7 (m : MethodId)  : entryFrame m #[(.long (1 : Int64)), (.long (7 : Int64))] 4 = mkF m 0 #[.val (.long (1 : Int64)), .second, .val (.long (7 : Int64)), .second] [] := by first | (simp [entryFrame, mkF, argsToLocals, Value.category]; done) | rfl
def Q_rm_mx7 (Z : State)  (h0 : Heap) (n0 : Nat) (v : Option Value) (h : Heap) (L : List Loc) : Prop := v = some (.long (7 : Int64)) ∧ Fr n0 L ∧ h = h0
set_option maxRecDepth 65536 in
set_option maxHeartbeats 40000000 in
theorem rm_mx7 (l : Launch) (Z : State) (av0 : Array Value) (hw : ∀ d ∈ tables_1, d.before av0 Z = true) (ws : List Jvm.Cond)  (h0 : Heap) (n0 : Nat) (Z0 : n0 ≤ h0.size) :
    MetFree l (⟨"java/lang/Math", "max", "(JJ)J"⟩ : MethodName) (head1 (Jvm.Cond.code (⟨"java/lang/Math", "max", "(JJ)J"⟩ : MethodName) jdk_29_method_66_code 4 (some .long) :: ws) ({ frames := 0, cells := 0, slots := 0, locals := 0 } : Room)) (fun a U => a = #[(.long (1 : Int64)), (.long (7 : Int64))] ∧ Z.Warmed39 U.vm ∧ U.heap = h0) (fun _ _ _ _ _ => True) (fun _ U o U' => ∃ v L, o = .returned v ∧ Q_rm_mx7 Z  h0 n0 v U'.heap L ∧ FrameEnd U o U' L ({ frames := 0, cells := 0, slots := 0, locals := 0 } : Room).cells ({ frames := 0, cells := 0, slots := 0, locals := 0 } : Room).slots) := by
  refine MetFree.of_bodySF (Jvm.Free.JP.mathPlain rfl (by decide +kernel)) hisR ?_
  intro p e s m args below meth c s₁ Bd hml0 hP hK
  obtain ⟨rfl, hZ, hh⟩ := hP
  have hx := Bd.exec
  have hby := Bd.bytes
  have hml : c.maxLocals = 4 := hml0
  have hown : s.vm.findClass "java/lang/Math" = some m.cls := findClass_of_methodNamed Bd.named
  have hnm := (name_of_methodNamed Bd.named Bd.method).1
  have X0 : Stand p l e ({ frames := 0, cells := 0, slots := 0, locals := 0 } : Room) s m #[(.long (1 : Int64)), (.long (7 : Int64))] below meth c s₁ [] 0 0 := Stand.of_body Bd
  have e0 : s₁.heap = h0 := by rw [← hh, Bd.state]; rfl
  have N0 := Fr.nil n0
  refine OGo.by (P := fun U' o => ∃ v L, o = .returned v ∧ Q_rm_mx7 Z  h0 n0 v U'.heap L ∧ FrameEnd s o U' L ({ frames := 0, cells := 0, slots := 0, locals := 0 } : Room).cells ({ frames := 0, cells := 0, slots := 0, locals := 0 } : Room).slots) (fun T_ k_ => castTop (ef_rm_mx7 m ) k_) ?_
  show OGo p e below _ (s₁.setTop (mkF m 0 #[.val (.long (1 : Int64)), .second, .val (.long (7 : Int64)), .second] []))
  refine OGo.by (fun _ k => XS.lloadN X0.here hx rfl (hb hby d3_0) rfl k) ?_
  show OGo p e below _ (s₁.setTop (mkF m 1 #[.val (.long (1 : Int64)), .second, .val (.long (7 : Int64)), .second] [(.long (1 : Int64))]))
  refine OGo.by (fun _ k => XS.lloadN X0.here hx rfl (hb hby d3_1) rfl k) ?_
  show OGo p e below _ (s₁.setTop (mkF m 2 #[.val (.long (1 : Int64)), .second, .val (.long (7 : Int64)), .second] [(.long (7 : Int64)), (.long (1 : Int64))]))
  refine OGo.by (fun _ k => XS.lcmp X0.here hx rfl (hb hby d3_2) rfl k) ?_
  show OGo p e below _ (s₁.setTop (mkF m 3 #[.val (.long (1 : Int64)), .second, .val (.long (7 : Int64)), .second] [(.int (lcmpW (1 : Int64) (7 : Int64)))]))
  refine OGo.by (fun _ k => XS.ifYes X0.here hx rfl (pc0 := 3) (pc' := 10) rfl (hb hby d3_3) rfl ((if0 _ _).trans (tlt ((lw_lt _ _).mpr (by decide))).1) (by decide) (by decide) k) ?_
  show OGo p e below _ (s₁.setTop (mkF m 10 #[.val (.long (1 : Int64)), .second, .val (.long (7 : Int64)), .second] []))
  refine OGo.by (fun _ k => XS.lloadN X0.here hx rfl (hb hby d3_10) rfl k) ?_
  show OGo p e below _ (s₁.setTop (mkF m 11 #[.val (.long (1 : Int64)), .second, .val (.long (7 : Int64)), .second] [(.long (7 : Int64))]))
  obtain ⟨fs, hr, hrun, hended, hW, hsame⟩ := X0.leave (v := some (.long (7 : Int64))) (fun h => by rw [Bd.returns] at h; cases h)
  refine OGo.ret (retOut X0 hx Bd.returns rfl (Or.inr (Or.inl ⟨rfl, rfl, _, rfl⟩)) (hb hby d3_11) hr) hrun hended ⟨_, _, rfl, ?_, ⟨_, rfl⟩, hW, hsame.mono (by decide) (by decide)⟩
  show Q_rm_mx7 Z  h0 n0 _ s₁.heap _
  rw [e0]
  exact ⟨rfl, N0, rfl⟩
theorem ef_rm_mx9 (m : MethodId)  : entryFrame m #[(.long (1 : Int64)), (.long (9 : Int64))] 4 = mkF m 0 #[.val (.long (1 : Int64)), .second, .val (.long (9 : Int64)), .second] [] := by first | (simp [entryFrame, mkF, argsToLocals, Value.category]; done) | rfl
def Q_rm_mx9 (Z : State)  (h0 : Heap) (n0 : Nat) (v : Option Value) (h : Heap) (L : List Loc) : Prop := v = some (.long (9 : Int64)) ∧ Fr n0 L ∧ h = h0
set_option maxRecDepth 65536 in
set_option maxHeartbeats 40000000 in
theorem rm_mx9 (l : Launch) (Z : State) (av0 : Array Value) (hw : ∀ d ∈ tables_1, d.before av0 Z = true) (ws : List Jvm.Cond)  (h0 : Heap) (n0 : Nat) (Z0 : n0 ≤ h0.size) :
    MetFree l (⟨"java/lang/Math", "max", "(JJ)J"⟩ : MethodName) (head1 (Jvm.Cond.code (⟨"java/lang/Math", "max", "(JJ)J"⟩ : MethodName) jdk_29_method_66_code 4 (some .long) :: ws) ({ frames := 0, cells := 0, slots := 0, locals := 0 } : Room)) (fun a U => a = #[(.long (1 : Int64)), (.long (9 : Int64))] ∧ Z.Warmed39 U.vm ∧ U.heap = h0) (fun _ _ _ _ _ => True) (fun _ U o U' => ∃ v L, o = .returned v ∧ Q_rm_mx9 Z  h0 n0 v U'.heap L ∧ FrameEnd U o U' L ({ frames := 0, cells := 0, slots := 0, locals := 0 } : Room).cells ({ frames := 0, cells := 0, slots := 0, locals := 0 } : Room).slots) := by
  refine MetFree.of_bodySF (Jvm.Free.JP.mathPlain rfl (by decide +kernel)) hisR ?_
  intro p e s m args below meth c s₁ Bd hml0 hP hK
  obtain ⟨rfl, hZ, hh⟩ := hP
  have hx := Bd.exec
  have hby := Bd.bytes
  have hml : c.maxLocals = 4 := hml0
  have hown : s.vm.findClass "java/lang/Math" = some m.cls := findClass_of_methodNamed Bd.named
  have hnm := (name_of_methodNamed Bd.named Bd.method).1
  have X0 : Stand p l e ({ frames := 0, cells := 0, slots := 0, locals := 0 } : Room) s m #[(.long (1 : Int64)), (.long (9 : Int64))] below meth c s₁ [] 0 0 := Stand.of_body Bd
  have e0 : s₁.heap = h0 := by rw [← hh, Bd.state]; rfl
  have N0 := Fr.nil n0
  refine OGo.by (P := fun U' o => ∃ v L, o = .returned v ∧ Q_rm_mx9 Z  h0 n0 v U'.heap L ∧ FrameEnd s o U' L ({ frames := 0, cells := 0, slots := 0, locals := 0 } : Room).cells ({ frames := 0, cells := 0, slots := 0, locals := 0 } : Room).slots) (fun T_ k_ => castTop (ef_rm_mx9 m ) k_) ?_
  show OGo p e below _ (s₁.setTop (mkF m 0 #[.val (.long (1 : Int64)), .second, .val (.long (9 : Int64)), .second] []))
  refine OGo.by (fun _ k => XS.lloadN X0.here hx rfl (hb hby d3_0) rfl k) ?_
  show OGo p e below _ (s₁.setTop (mkF m 1 #[.val (.long (1 : Int64)), .second, .val (.long (9 : Int64)), .second] [(.long (1 : Int64))]))
  refine OGo.by (fun _ k => XS.lloadN X0.here hx rfl (hb hby d3_1) rfl k) ?_
  show OGo p e below _ (s₁.setTop (mkF m 2 #[.val (.long (1 : Int64)), .second, .val (.long (9 : Int64)), .second] [(.long (9 : Int64)), (.long (1 : Int64))]))
  refine OGo.by (fun _ k => XS.lcmp X0.here hx rfl (hb hby d3_2) rfl k) ?_
  show OGo p e below _ (s₁.setTop (mkF m 3 #[.val (.long (1 : Int64)), .second, .val (.long (9 : Int64)), .second] [(.int (lcmpW (1 : Int64) (9 : Int64)))]))
  refine OGo.by (fun _ k => XS.ifYes X0.here hx rfl (pc0 := 3) (pc' := 10) rfl (hb hby d3_3) rfl ((if0 _ _).trans (tlt ((lw_lt _ _).mpr (by decide))).1) (by decide) (by decide) k) ?_
  show OGo p e below _ (s₁.setTop (mkF m 10 #[.val (.long (1 : Int64)), .second, .val (.long (9 : Int64)), .second] []))
  refine OGo.by (fun _ k => XS.lloadN X0.here hx rfl (hb hby d3_10) rfl k) ?_
  show OGo p e below _ (s₁.setTop (mkF m 11 #[.val (.long (1 : Int64)), .second, .val (.long (9 : Int64)), .second] [(.long (9 : Int64))]))
  obtain ⟨fs, hr, hrun, hended, hW, hsame⟩ := X0.leave (v := some (.long (9 : Int64))) (fun h => by rw [Bd.returns] at h; cases h)
  refine OGo.ret (retOut X0 hx Bd.returns rfl (Or.inr (Or.inl ⟨rfl, rfl, _, rfl⟩)) (hb hby d3_11) hr) hrun hended ⟨_, _, rfl, ?_, ⟨_, rfl⟩, hW, hsame.mono (by decide) (by decide)⟩
  show Q_rm_mx9 Z  h0 n0 _ s₁.heap _
  rw [e0]
  exact ⟨rfl, N0, rfl⟩
theorem ef_rm_mx11 (m : MethodId)  : entryFrame m #[(.long (1 : Int64)), (.long (11 : Int64))] 4 = mkF m 0 #[.val (.long (1 : Int64)), .second, .val (.long (11 : Int64)), .second] [] := by first | (simp [entryFrame, mkF, argsToLocals, Value.category]; done) | rfl
def Q_rm_mx11 (Z : State)  (h0 : Heap) (n0 : Nat) (v : Option Value) (h : Heap) (L : List Loc) : Prop := v = some (.long (11 : Int64)) ∧ Fr n0 L ∧ h = h0
set_option maxRecDepth 65536 in
set_option maxHeartbeats 40000000 in
theorem rm_mx11 (l : Launch) (Z : State) (av0 : Array Value) (hw : ∀ d ∈ tables_1, d.before av0 Z = true) (ws : List Jvm.Cond)  (h0 : Heap) (n0 : Nat) (Z0 : n0 ≤ h0.size) :
    MetFree l (⟨"java/lang/Math", "max", "(JJ)J"⟩ : MethodName) (head1 (Jvm.Cond.code (⟨"java/lang/Math", "max", "(JJ)J"⟩ : MethodName) jdk_29_method_66_code 4 (some .long) :: ws) ({ frames := 0, cells := 0, slots := 0, locals := 0 } : Room)) (fun a U => a = #[(.long (1 : Int64)), (.long (11 : Int64))] ∧ Z.Warmed39 U.vm ∧ U.heap = h0) (fun _ _ _ _ _ => True) (fun _ U o U' => ∃ v L, o = .returned v ∧ Q_rm_mx11 Z  h0 n0 v U'.heap L ∧ FrameEnd U o U' L ({ frames := 0, cells := 0, slots := 0, locals := 0 } : Room).cells ({ frames := 0, cells := 0, slots := 0, locals := 0 } : Room).slots) := by
  refine MetFree.of_bodySF (Jvm.Free.JP.mathPlain rfl (by decide +kernel)) hisR ?_
  intro p e s m args below meth c s₁ Bd hml0 hP hK
  obtain ⟨rfl, hZ, hh⟩ := hP
  have hx := Bd.exec
  have hby := Bd.bytes
  have hml : c.maxLocals = 4 := hml0
  have hown : s.vm.findClass "java/lang/Math" = some m.cls := findClass_of_methodNamed Bd.named
  have hnm := (name_of_methodNamed Bd.named Bd.method).1
  have X0 : Stand p l e ({ frames := 0, cells := 0, slots := 0, locals := 0 } : Room) s m #[(.long (1 : Int64)), (.long (11 : Int64))] below meth c s₁ [] 0 0 := Stand.of_body Bd
  have e0 : s₁.heap = h0 := by rw [← hh, Bd.state]; rfl
  have N0 := Fr.nil n0
  refine OGo.by (P := fun U' o => ∃ v L, o = .returned v ∧ Q_rm_mx11 Z  h0 n0 v U'.heap L ∧ FrameEnd s o U' L ({ frames := 0, cells := 0, slots := 0, locals := 0 } : Room).cells ({ frames := 0, cells := 0, slots := 0, locals := 0 } : Room).slots) (fun T_ k_ => castTop (ef_rm_mx11 m ) k_) ?_
  show OGo p e below _ (s₁.setTop (mkF m 0 #[.val (.long (1 : Int64)), .second, .val (.long (11 : Int64)), .second] []))
  refine OGo.by (fun _ k => XS.lloadN X0.here hx rfl (hb hby d3_0) rfl k) ?_
  show OGo p e below _ (s₁.setTop (mkF m 1 #[.val (.long (1 : Int64)), .second, .val (.long (11 : Int64)), .second] [(.long (1 : Int64))]))
  refine OGo.by (fun _ k => XS.lloadN X0.here hx rfl (hb hby d3_1) rfl k) ?_
  show OGo p e below _ (s₁.setTop (mkF m 2 #[.val (.long (1 : Int64)), .second, .val (.long (11 : Int64)), .second] [(.long (11 : Int64)), (.long (1 : Int64))]))
  refine OGo.by (fun _ k => XS.lcmp X0.here hx rfl (hb hby d3_2) rfl k) ?_
  show OGo p e below _ (s₁.setTop (mkF m 3 #[.val (.long (1 : Int64)), .second, .val (.long (11 : Int64)), .second] [(.int (lcmpW (1 : Int64) (11 : Int64)))]))
  refine OGo.by (fun _ k => XS.ifYes X0.here hx rfl (pc0 := 3) (pc' := 10) rfl (hb hby d3_3) rfl ((if0 _ _).trans (tlt ((lw_lt _ _).mpr (by decide))).1) (by decide) (by decide) k) ?_
  show OGo p e below _ (s₁.setTop (mkF m 10 #[.val (.long (1 : Int64)), .second, .val (.long (11 : Int64)), .second] []))
  refine OGo.by (fun _ k => XS.lloadN X0.here hx rfl (hb hby d3_10) rfl k) ?_
  show OGo p e below _ (s₁.setTop (mkF m 11 #[.val (.long (1 : Int64)), .second, .val (.long (11 : Int64)), .second] [(.long (11 : Int64))]))
  obtain ⟨fs, hr, hrun, hended, hW, hsame⟩ := X0.leave (v := some (.long (11 : Int64))) (fun h => by rw [Bd.returns] at h; cases h)
  refine OGo.ret (retOut X0 hx Bd.returns rfl (Or.inr (Or.inl ⟨rfl, rfl, _, rfl⟩)) (hb hby d3_11) hr) hrun hended ⟨_, _, rfl, ?_, ⟨_, rfl⟩, hW, hsame.mono (by decide) (by decide)⟩
  show Q_rm_mx11 Z  h0 n0 _ s₁.heap _
  rw [e0]
  exact ⟨rfl, N0, rfl⟩
theorem ef_rm_mx13 (m : MethodId)  : entryFrame m #[(.long (1 : Int64)), (.long (13 : Int64))] 4 = mkF m 0 #[.val (.long (1 : Int64)), .second, .val (.long (13 : Int64)), .second] [] := by first | (simp [entryFrame, mkF, argsToLocals, Value.category]; done) | rfl
def Q_rm_mx13 (Z : State)  (h0 : Heap) (n0 : Nat) (v : Option Value) (h : Heap) (L : List Loc) : Prop := v = some (.long (13 : Int64)) ∧ Fr n0 L ∧ h = h0
set_option maxRecDepth 65536 in
set_option maxHeartbeats 40000000 in
theorem rm_mx13 (l : Launch) (Z : State) (av0 : Array Value) (hw : ∀ d ∈ tables_1, d.before av0 Z = true) (ws : List Jvm.Cond)  (h0 : Heap) (n0 : Nat) (Z0 : n0 ≤ h0.size) :
    MetFree l (⟨"java/lang/Math", "max", "(JJ)J"⟩ : MethodName) (head1 (Jvm.Cond.code (⟨"java/lang/Math", "max", "(JJ)J"⟩ : MethodName) jdk_29_method_66_code 4 (some .long) :: ws) ({ frames := 0, cells := 0, slots := 0, locals := 0 } : Room)) (fun a U => a = #[(.long (1 : Int64)), (.long (13 : Int64))] ∧ Z.Warmed39 U.vm ∧ U.heap = h0) (fun _ _ _ _ _ => True) (fun _ U o U' => ∃ v L, o = .returned v ∧ Q_rm_mx13 Z  h0 n0 v U'.heap L ∧ FrameEnd U o U' L ({ frames := 0, cells := 0, slots := 0, locals := 0 } : Room).cells ({ frames := 0, cells := 0, slots := 0, locals := 0 } : Room).slots) := by
  refine MetFree.of_bodySF (Jvm.Free.JP.mathPlain rfl (by decide +kernel)) hisR ?_
  intro p e s m args below meth c s₁ Bd hml0 hP hK
  obtain ⟨rfl, hZ, hh⟩ := hP
  have hx := Bd.exec
  have hby := Bd.bytes
  have hml : c.maxLocals = 4 := hml0
  have hown : s.vm.findClass "java/lang/Math" = some m.cls := findClass_of_methodNamed Bd.named
  have hnm := (name_of_methodNamed Bd.named Bd.method).1
  have X0 : Stand p l e ({ frames := 0, cells := 0, slots := 0, locals := 0 } : Room) s m #[(.long (1 : Int64)), (.long (13 : Int64))] below meth c s₁ [] 0 0 := Stand.of_body Bd
  have e0 : s₁.heap = h0 := by rw [← hh, Bd.state]; rfl
  have N0 := Fr.nil n0
  refine OGo.by (P := fun U' o => ∃ v L, o = .returned v ∧ Q_rm_mx13 Z  h0 n0 v U'.heap L ∧ FrameEnd s o U' L ({ frames := 0, cells := 0, slots := 0, locals := 0 } : Room).cells ({ frames := 0, cells := 0, slots := 0, locals := 0 } : Room).slots) (fun T_ k_ => castTop (ef_rm_mx13 m ) k_) ?_
  show OGo p e below _ (s₁.setTop (mkF m 0 #[.val (.long (1 : Int64)), .second, .val (.long (13 : Int64)), .second] []))
  refine OGo.by (fun _ k => XS.lloadN X0.here hx rfl (hb hby d3_0) rfl k) ?_
  show OGo p e below _ (s₁.setTop (mkF m 1 #[.val (.long (1 : Int64)), .second, .val (.long (13 : Int64)), .second] [(.long (1 : Int64))]))
  refine OGo.by (fun _ k => XS.lloadN X0.here hx rfl (hb hby d3_1) rfl k) ?_
  show OGo p e below _ (s₁.setTop (mkF m 2 #[.val (.long (1 : Int64)), .second, .val (.long (13 : Int64)), .second] [(.long (13 : Int64)), (.long (1 : Int64))]))
  refine OGo.by (fun _ k => XS.lcmp X0.here hx rfl (hb hby d3_2) rfl k) ?_
  show OGo p e below _ (s₁.setTop (mkF m 3 #[.val (.long (1 : Int64)), .second, .val (.long (13 : Int64)), .second] [(.int (lcmpW (1 : Int64) (13 : Int64)))]))
  refine OGo.by (fun _ k => XS.ifYes X0.here hx rfl (pc0 := 3) (pc' := 10) rfl (hb hby d3_3) rfl ((if0 _ _).trans (tlt ((lw_lt _ _).mpr (by decide))).1) (by decide) (by decide) k) ?_
  show OGo p e below _ (s₁.setTop (mkF m 10 #[.val (.long (1 : Int64)), .second, .val (.long (13 : Int64)), .second] []))
  refine OGo.by (fun _ k => XS.lloadN X0.here hx rfl (hb hby d3_10) rfl k) ?_
  show OGo p e below _ (s₁.setTop (mkF m 11 #[.val (.long (1 : Int64)), .second, .val (.long (13 : Int64)), .second] [(.long (13 : Int64))]))
  obtain ⟨fs, hr, hrun, hended, hW, hsame⟩ := X0.leave (v := some (.long (13 : Int64))) (fun h => by rw [Bd.returns] at h; cases h)
  refine OGo.ret (retOut X0 hx Bd.returns rfl (Or.inr (Or.inl ⟨rfl, rfl, _, rfl⟩)) (hb hby d3_11) hr) hrun hended ⟨_, _, rfl, ?_, ⟨_, rfl⟩, hW, hsame.mono (by decide) (by decide)⟩
  show Q_rm_mx13 Z  h0 n0 _ s₁.heap _
  rw [e0]
  exact ⟨rfl, N0, rfl⟩
theorem d6_0 : decode jdk_65_method_103_code 0 = .ok (.iconst 0, 1) := by decide +kernel
theorem d6_1 : decode jdk_65_method_103_code 1 = .ok (.istore_n 2, 1) := by decide +kernel
theorem d6_2 : decode jdk_65_method_103_code 2 = .ok (.aload_n 0, 1) := by decide +kernel
theorem d6_3 : decode jdk_65_method_103_code 3 = .ok (.arraylength, 1) := by decide +kernel
theorem d6_4 : decode jdk_65_method_103_code 4 = .ok (.istore_n 3, 1) := by decide +kernel
theorem d6_5 : decode jdk_65_method_103_code 5 = .ok (.iload_n 2, 1) := by decide +kernel
theorem d6_6 : decode jdk_65_method_103_code 6 = .ok (.iload_n 3, 1) := by decide +kernel
theorem d6_7 : decode jdk_65_method_103_code 7 = .ok (.if_icmp .ge 13, 3) := by decide +kernel
theorem d6_10 : decode jdk_65_method_103_code 10 = .ok (.aload_n 0, 1) := by decide +kernel
theorem d6_11 : decode jdk_65_method_103_code 11 = .ok (.iload_n 2, 1) := by decide +kernel
theorem d6_12 : decode jdk_65_method_103_code 12 = .ok (.iload_n 1, 1) := by decide +kernel
theorem d6_13 : decode jdk_65_method_103_code 13 = .ok (.iastore, 1) := by decide +kernel
theorem d6_14 : decode jdk_65_method_103_code 14 = .ok (.iinc 2 1, 3) := by decide +kernel
theorem d6_17 : decode jdk_65_method_103_code 17 = .ok (.goto (-12), 3) := by decide +kernel
theorem d6_20 : decode jdk_65_method_103_code 20 = .ok (.return_, 1) := by decide +kernel
theorem own_pn6 : plainName "java/util/Arrays" = true := by first | (simp [plainName, overriddenIn]; done) | decide +kernel
theorem ef_rm_fi8 (m : MethodId) (a0 : Addr) (ka : ClassId) : entryFrame m #[(.ref a0), (.int (-1 : Int32))] 4 = mkF m 0 #[.val (.ref a0), .val (.int (-1 : Int32)), .unset, .unset] [] := by first | (simp [entryFrame, mkF, argsToLocals, Value.category]; done) | rfl
def Q_rm_fi8 (Z : State) (a0 : Addr) (ka : ClassId) (h0 : Heap) (n0 : Nat) (v : Option Value) (h : Heap) (L : List Loc) : Prop := v = none ∧ Fr n0 L ∧ Keep h0 h [a0] ∧ (Arv Z h a0 ka .int (8 : Int32) [(.int (-1 : Int32)), (.int (-1 : Int32)), (.int (-1 : Int32)), (.int (-1 : Int32)), (.int (-1 : Int32)), (.int (-1 : Int32)), (.int (-1 : Int32)), (.int (-1 : Int32))] (.int (0 : Int32)))
set_option maxRecDepth 65536 in
set_option maxHeartbeats 40000000 in
theorem rm_fi8 (l : Launch) (Z : State) (av0 : Array Value) (hw : ∀ d ∈ tables_1, d.before av0 Z = true) (ws : List Jvm.Cond) (a0 : Addr) (ka : ClassId) (h0 : Heap) (n0 : Nat) (Z0 : n0 ≤ h0.size) (A0 : Arv Z h0 a0 ka .int (8 : Int32) [(.int (0 : Int32)), (.int (0 : Int32)), (.int (0 : Int32)), (.int (0 : Int32)), (.int (0 : Int32)), (.int (0 : Int32)), (.int (0 : Int32)), (.int (0 : Int32))] (.int (0 : Int32))) (g_a0 : n0 ≤ a0) :
    MetFree l (⟨"java/util/Arrays", "fill", "([II)V"⟩ : MethodName) (head1 (Jvm.Cond.code (⟨"java/util/Arrays", "fill", "([II)V"⟩ : MethodName) jdk_65_method_103_code 4 none :: ws) ({ frames := 0, cells := 0, slots := 0, locals := 0 } : Room)) (fun a U => a = #[(.ref a0), (.int (-1 : Int32))] ∧ Z.Warmed39 U.vm ∧ U.heap = h0) (fun _ _ _ _ _ => True) (fun _ U o U' => ∃ v L, o = .returned v ∧ Q_rm_fi8 Z a0 ka h0 n0 v U'.heap L ∧ FrameEnd U o U' L ({ frames := 0, cells := 0, slots := 0, locals := 0 } : Room).cells ({ frames := 0, cells := 0, slots := 0, locals := 0 } : Room).slots) := by
  refine MetFree.of_bodySF (plainFor_of_name own_pn6) hisR ?_
  intro p e s m args below meth c s₁ Bd hml0 hP hK
  obtain ⟨rfl, hZ, hh⟩ := hP
  have hx := Bd.exec
  have hby := Bd.bytes
  have hml : c.maxLocals = 4 := hml0
  have hown : s.vm.findClass "java/util/Arrays" = some m.cls := findClass_of_methodNamed Bd.named
  have hnm := (name_of_methodNamed Bd.named Bd.method).1
  have X0 : Stand p l e ({ frames := 0, cells := 0, slots := 0, locals := 0 } : Room) s m #[(.ref a0), (.int (-1 : Int32))] below meth c s₁ [] 0 0 := Stand.of_body Bd
  have e0 : s₁.heap = h0 := by rw [← hh, Bd.state]; rfl
  have N0 := Fr.nil n0
  refine OGo.by (P := fun U' o => ∃ v L, o = .returned v ∧ Q_rm_fi8 Z a0 ka h0 n0 v U'.heap L ∧ FrameEnd s o U' L ({ frames := 0, cells := 0, slots := 0, locals := 0 } : Room).cells ({ frames := 0, cells := 0, slots := 0, locals := 0 } : Room).slots) (fun T_ k_ => castTop (ef_rm_fi8 m a0 ka) k_) ?_
  show OGo p e below _ (s₁.setTop (mkF m 0 #[.val (.ref a0), .val (.int (-1 : Int32)), .unset, .unset] []))
  refine OGo.by (fun _ k => XS.iconst X0.here hx rfl (hb hby d6_0) k) ?_
  show OGo p e below _ (s₁.setTop (mkF m 1 #[.val (.ref a0), .val (.int (-1 : Int32)), .unset, .unset] [(.int (0 : Int32))]))
  refine OGo.by (fun _ k => XS.istoreN X0.here hx rfl (hb hby d6_1) rfl (l' := #[.val (.ref a0), .val (.int (-1 : Int32)), .val (.int (0 : Int32)), .unset]) rfl k) ?_
  show OGo p e below _ (s₁.setTop (mkF m 2 #[.val (.ref a0), .val (.int (-1 : Int32)), .val (.int (0 : Int32)), .unset] []))
  refine OGo.by (fun _ k => XS.aloadN X0.here hx rfl (hb hby d6_2) rfl rfl k) ?_
  show OGo p e below _ (s₁.setTop (mkF m 3 #[.val (.ref a0), .val (.int (-1 : Int32)), .val (.int (0 : Int32)), .unset] [(.ref a0)]))
  obtain ⟨cl1, Ar1, q1, S1, M1, -, -⟩ := id A0
  refine OGo.by (X0.arraylength hx (by rw [e0]; exact Ar1.1) (State.isArrayOf_alike hZ.alike Ar1.2.1) (g := (mkF m 3 #[.val (.ref a0), .val (.int (-1 : Int32)), .val (.int (0 : Int32)), .unset] [(.ref a0)])) rfl rfl (hb hby d6_3)) ?_
  rw [len_of S1 M1]
  show OGo p e below _ (s₁.setTop (mkF m 4 #[.val (.ref a0), .val (.int (-1 : Int32)), .val (.int (0 : Int32)), .unset] [(.int (8 : Int32))]))
  refine OGo.by (fun _ k => XS.istoreN X0.here hx rfl (hb hby d6_4) rfl (l' := #[.val (.ref a0), .val (.int (-1 : Int32)), .val (.int (0 : Int32)), .val (.int (8 : Int32))]) rfl k) ?_
  show OGo p e below _ (s₁.setTop (mkF m 5 #[.val (.ref a0), .val (.int (-1 : Int32)), .val (.int (0 : Int32)), .val (.int (8 : Int32))] []))
  refine OGo.by (fun _ k => XS.iloadN X0.here hx rfl (hb hby d6_5) rfl k) ?_
  show OGo p e below _ (s₁.setTop (mkF m 6 #[.val (.ref a0), .val (.int (-1 : Int32)), .val (.int (0 : Int32)), .val (.int (8 : Int32))] [(.int (0 : Int32))]))
  refine OGo.by (fun _ k => XS.iloadN X0.here hx rfl (hb hby d6_6) rfl k) ?_
  show OGo p e below _ (s₁.setTop (mkF m 7 #[.val (.ref a0), .val (.int (-1 : Int32)), .val (.int (0 : Int32)), .val (.int (8 : Int32))] [(.int (8 : Int32)), (.int (0 : Int32))]))
  refine OGo.by (fun _ k => XS.icmpNo X0.here hx rfl (hb hby d6_7) rfl (tlt (by decide : (0 : Int32) < (8 : Int32))).2.1 k) ?_
  show OGo p e below _ (s₁.setTop (mkF m 10 #[.val (.ref a0), .val (.int (-1 : Int32)), .val (.int (0 : Int32)), .val (.int (8 : Int32))] []))
  refine OGo.by (fun _ k => XS.aloadN X0.here hx rfl (hb hby d6_10) rfl rfl k) ?_
  show OGo p e below _ (s₁.setTop (mkF m 11 #[.val (.ref a0), .val (.int (-1 : Int32)), .val (.int (0 : Int32)), .val (.int (8 : Int32))] [(.ref a0)]))
  refine OGo.by (fun _ k => XS.iloadN X0.here hx rfl (hb hby d6_11) rfl k) ?_
  show OGo p e below _ (s₁.setTop (mkF m 12 #[.val (.ref a0), .val (.int (-1 : Int32)), .val (.int (0 : Int32)), .val (.int (8 : Int32))] [(.int (0 : Int32)), (.ref a0)]))
  refine OGo.by (fun _ k => XS.iloadN X0.here hx rfl (hb hby d6_12) rfl k) ?_
  show OGo p e below _ (s₁.setTop (mkF m 13 #[.val (.ref a0), .val (.int (-1 : Int32)), .val (.int (0 : Int32)), .val (.int (8 : Int32))] [(.int (-1 : Int32)), (.int (0 : Int32)), (.ref a0)]))
  obtain ⟨cl2, Ar2, q2, S2, M2, Hs2, G2⟩ := id A0
  obtain ⟨T2, h2, X2, e2, W2, st2⟩ := stI X0 hx hZ e0 Ar2 (j := (0 : Int32)) (inb_of S2 ⟨(by decide), (by decide)⟩) (g := (mkF m 13 #[.val (.ref a0), .val (.int (-1 : Int32)), .val (.int (0 : Int32)), .val (.int (8 : Int32))] [(.int (-1 : Int32)), (.int (0 : Int32)), (.ref a0)])) rfl rfl (hb hby d6_13)
  refine OGo.by st2 ?_
  have N2 := Fr.snoc X2 N0 g_a0
  have K2 : Keep h0 h2 [a0] := ((Keep.refl h0 [a0])).wr W2 (Or.inl (List.mem_of_getElem? (i := 0) rfl))
  have V2 : Arv Z h2 a0 ka .int (8 : Int32) [(.int (-1 : Int32)), (.int (0 : Int32)), (.int (0 : Int32)), (.int (0 : Int32)), (.int (0 : Int32)), (.int (0 : Int32)), (.int (0 : Int32)), (.int (0 : Int32))] (.int (0 : Int32)) := Arv.set Ar2 q2 S2 M2 Hs2 G2 rfl W2 0 rfl (Nat.le_of_ble_eq_true rfl)
  show OGo p e below _ (T2.setTop (mkF m 14 #[.val (.ref a0), .val (.int (-1 : Int32)), .val (.int (0 : Int32)), .val (.int (8 : Int32))] []))
  refine OGo.by (fun _ k => XS.iinc X2.here hx rfl (hb hby d6_14) rfl (l' := #[.val (.ref a0), .val (.int (-1 : Int32)), .val (.int (1 : Int32)), .val (.int (8 : Int32))]) rfl k) ?_
  show OGo p e below _ (T2.setTop (mkF m 17 #[.val (.ref a0), .val (.int (-1 : Int32)), .val (.int (1 : Int32)), .val (.int (8 : Int32))] []))
  refine OGo.by (fun _ k => XS.goto X2.here hx rfl (pc0 := 17) (pc' := 5) rfl (hb hby d6_17) (by decide) (by decide) k) ?_
  show OGo p e below _ (T2.setTop (mkF m 5 #[.val (.ref a0), .val (.int (-1 : Int32)), .val (.int (1 : Int32)), .val (.int (8 : Int32))] []))
  refine OGo.by (fun _ k => XS.iloadN X2.here hx rfl (hb hby d6_5) rfl k) ?_
  show OGo p e below _ (T2.setTop (mkF m 6 #[.val (.ref a0), .val (.int (-1 : Int32)), .val (.int (1 : Int32)), .val (.int (8 : Int32))] [(.int (1 : Int32))]))
  refine OGo.by (fun _ k => XS.iloadN X2.here hx rfl (hb hby d6_6) rfl k) ?_
  show OGo p e below _ (T2.setTop (mkF m 7 #[.val (.ref a0), .val (.int (-1 : Int32)), .val (.int (1 : Int32)), .val (.int (8 : Int32))] [(.int (8 : Int32)), (.int (1 : Int32))]))
  refine OGo.by (fun _ k => XS.icmpNo X2.here hx rfl (hb hby d6_7) rfl (tlt (by decide : (1 : Int32) < (8 : Int32))).2.1 k) ?_
  show OGo p e below _ (T2.setTop (mkF m 10 #[.val (.ref a0), .val (.int (-1 : Int32)), .val (.int (1 : Int32)), .val (.int (8 : Int32))] []))
  refine OGo.by (fun _ k => XS.aloadN X2.here hx rfl (hb hby d6_10) rfl rfl k) ?_
  show OGo p e below _ (T2.setTop (mkF m 11 #[.val (.ref a0), .val (.int (-1 : Int32)), .val (.int (1 : Int32)), .val (.int (8 : Int32))] [(.ref a0)]))
  refine OGo.by (fun _ k => XS.iloadN X2.here hx rfl (hb hby d6_11) rfl k) ?_
  show OGo p e below _ (T2.setTop (mkF m 12 #[.val (.ref a0), .val (.int (-1 : Int32)), .val (.int (1 : Int32)), .val (.int (8 : Int32))] [(.int (1 : Int32)), (.ref a0)]))
  refine OGo.by (fun _ k => XS.iloadN X2.here hx rfl (hb hby d6_12) rfl k) ?_
  show OGo p e below _ (T2.setTop (mkF m 13 #[.val (.ref a0), .val (.int (-1 : Int32)), .val (.int (1 : Int32)), .val (.int (8 : Int32))] [(.int (-1 : Int32)), (.int (1 : Int32)), (.ref a0)]))
  obtain ⟨cl3, Ar3, q3, S3, M3, Hs3, G3⟩ := id V2
  obtain ⟨T3, h3, X3, e3, W3, st3⟩ := stI X2 hx hZ e2 Ar3 (j := (1 : Int32)) (inb_of S3 ⟨(by decide), (by decide)⟩) (g := (mkF m 13 #[.val (.ref a0), .val (.int (-1 : Int32)), .val (.int (1 : Int32)), .val (.int (8 : Int32))] [(.int (-1 : Int32)), (.int (1 : Int32)), (.ref a0)])) rfl rfl (hb hby d6_13)
  refine OGo.by st3 ?_
  have N3 := Fr.snoc X3 N2 g_a0
  have K3 : Keep h0 h3 [a0] := (K2).wr W3 (Or.inl (List.mem_of_getElem? (i := 0) rfl))
  have V3 : Arv Z h3 a0 ka .int (8 : Int32) [(.int (-1 : Int32)), (.int (-1 : Int32)), (.int (0 : Int32)), (.int (0 : Int32)), (.int (0 : Int32)), (.int (0 : Int32)), (.int (0 : Int32)), (.int (0 : Int32))] (.int (0 : Int32)) := Arv.set Ar3 q3 S3 M3 Hs3 G3 rfl W3 1 rfl (Nat.le_of_ble_eq_true rfl)
  show OGo p e below _ (T3.setTop (mkF m 14 #[.val (.ref a0), .val (.int (-1 : Int32)), .val (.int (1 : Int32)), .val (.int (8 : Int32))] []))
  refine OGo.by (fun _ k => XS.iinc X3.here hx rfl (hb hby d6_14) rfl (l' := #[.val (.ref a0), .val (.int (-1 : Int32)), .val (.int (2 : Int32)), .val (.int (8 : Int32))]) rfl k) ?_
  show OGo p e below _ (T3.setTop (mkF m 17 #[.val (.ref a0), .val (.int (-1 : Int32)), .val (.int (2 : Int32)), .val (.int (8 : Int32))] []))
  refine OGo.by (fun _ k => XS.goto X3.here hx rfl (pc0 := 17) (pc' := 5) rfl (hb hby d6_17) (by decide) (by decide) k) ?_
  show OGo p e below _ (T3.setTop (mkF m 5 #[.val (.ref a0), .val (.int (-1 : Int32)), .val (.int (2 : Int32)), .val (.int (8 : Int32))] []))
  refine OGo.by (fun _ k => XS.iloadN X3.here hx rfl (hb hby d6_5) rfl k) ?_
  show OGo p e below _ (T3.setTop (mkF m 6 #[.val (.ref a0), .val (.int (-1 : Int32)), .val (.int (2 : Int32)), .val (.int (8 : Int32))] [(.int (2 : Int32))]))
  refine OGo.by (fun _ k => XS.iloadN X3.here hx rfl (hb hby d6_6) rfl k) ?_
  show OGo p e below _ (T3.setTop (mkF m 7 #[.val (.ref a0), .val (.int (-1 : Int32)), .val (.int (2 : Int32)), .val (.int (8 : Int32))] [(.int (8 : Int32)), (.int (2 : Int32))]))
  refine OGo.by (fun _ k => XS.icmpNo X3.here hx rfl (hb hby d6_7) rfl (tlt (by decide : (2 : Int32) < (8 : Int32))).2.1 k) ?_
  show OGo p e below _ (T3.setTop (mkF m 10 #[.val (.ref a0), .val (.int (-1 : Int32)), .val (.int (2 : Int32)), .val (.int (8 : Int32))] []))
  refine OGo.by (fun _ k => XS.aloadN X3.here hx rfl (hb hby d6_10) rfl rfl k) ?_
  show OGo p e below _ (T3.setTop (mkF m 11 #[.val (.ref a0), .val (.int (-1 : Int32)), .val (.int (2 : Int32)), .val (.int (8 : Int32))] [(.ref a0)]))
  refine OGo.by (fun _ k => XS.iloadN X3.here hx rfl (hb hby d6_11) rfl k) ?_
  show OGo p e below _ (T3.setTop (mkF m 12 #[.val (.ref a0), .val (.int (-1 : Int32)), .val (.int (2 : Int32)), .val (.int (8 : Int32))] [(.int (2 : Int32)), (.ref a0)]))
  refine OGo.by (fun _ k => XS.iloadN X3.here hx rfl (hb hby d6_12) rfl k) ?_
  show OGo p e below _ (T3.setTop (mkF m 13 #[.val (.ref a0), .val (.int (-1 : Int32)), .val (.int (2 : Int32)), .val (.int (8 : Int32))] [(.int (-1 : Int32)), (.int (2 : Int32)), (.ref a0)]))
  obtain ⟨cl4, Ar4, q4, S4, M4, Hs4, G4⟩ := id V3
  obtain ⟨T4, h4, X4, e4, W4, st4⟩ := stI X3 hx hZ e3 Ar4 (j := (2 : Int32)) (inb_of S4 ⟨(by decide), (by decide)⟩) (g := (mkF m 13 #[.val (.ref a0), .val (.int (-1 : Int32)), .val (.int (2 : Int32)), .val (.int (8 : Int32))] [(.int (-1 : Int32)), (.int (2 : Int32)), (.ref a0)])) rfl rfl (hb hby d6_13)
  refine OGo.by st4 ?_
  have N4 := Fr.snoc X4 N3 g_a0
  have K4 : Keep h0 h4 [a0] := (K3).wr W4 (Or.inl (List.mem_of_getElem? (i := 0) rfl))
  have V4 : Arv Z h4 a0 ka .int (8 : Int32) [(.int (-1 : Int32)), (.int (-1 : Int32)), (.int (-1 : Int32)), (.int (0 : Int32)), (.int (0 : Int32)), (.int (0 : Int32)), (.int (0 : Int32)), (.int (0 : Int32))] (.int (0 : Int32)) := Arv.set Ar4 q4 S4 M4 Hs4 G4 rfl W4 2 rfl (Nat.le_of_ble_eq_true rfl)
  show OGo p e below _ (T4.setTop (mkF m 14 #[.val (.ref a0), .val (.int (-1 : Int32)), .val (.int (2 : Int32)), .val (.int (8 : Int32))] []))
  refine OGo.by (fun _ k => XS.iinc X4.here hx rfl (hb hby d6_14) rfl (l' := #[.val (.ref a0), .val (.int (-1 : Int32)), .val (.int (3 : Int32)), .val (.int (8 : Int32))]) rfl k) ?_
  show OGo p e below _ (T4.setTop (mkF m 17 #[.val (.ref a0), .val (.int (-1 : Int32)), .val (.int (3 : Int32)), .val (.int (8 : Int32))] []))
  refine OGo.by (fun _ k => XS.goto X4.here hx rfl (pc0 := 17) (pc' := 5) rfl (hb hby d6_17) (by decide) (by decide) k) ?_
  show OGo p e below _ (T4.setTop (mkF m 5 #[.val (.ref a0), .val (.int (-1 : Int32)), .val (.int (3 : Int32)), .val (.int (8 : Int32))] []))
  refine OGo.by (fun _ k => XS.iloadN X4.here hx rfl (hb hby d6_5) rfl k) ?_
  show OGo p e below _ (T4.setTop (mkF m 6 #[.val (.ref a0), .val (.int (-1 : Int32)), .val (.int (3 : Int32)), .val (.int (8 : Int32))] [(.int (3 : Int32))]))
  refine OGo.by (fun _ k => XS.iloadN X4.here hx rfl (hb hby d6_6) rfl k) ?_
  show OGo p e below _ (T4.setTop (mkF m 7 #[.val (.ref a0), .val (.int (-1 : Int32)), .val (.int (3 : Int32)), .val (.int (8 : Int32))] [(.int (8 : Int32)), (.int (3 : Int32))]))
  refine OGo.by (fun _ k => XS.icmpNo X4.here hx rfl (hb hby d6_7) rfl (tlt (by decide : (3 : Int32) < (8 : Int32))).2.1 k) ?_
  show OGo p e below _ (T4.setTop (mkF m 10 #[.val (.ref a0), .val (.int (-1 : Int32)), .val (.int (3 : Int32)), .val (.int (8 : Int32))] []))
  refine OGo.by (fun _ k => XS.aloadN X4.here hx rfl (hb hby d6_10) rfl rfl k) ?_
  show OGo p e below _ (T4.setTop (mkF m 11 #[.val (.ref a0), .val (.int (-1 : Int32)), .val (.int (3 : Int32)), .val (.int (8 : Int32))] [(.ref a0)]))
  refine OGo.by (fun _ k => XS.iloadN X4.here hx rfl (hb hby d6_11) rfl k) ?_
  show OGo p e below _ (T4.setTop (mkF m 12 #[.val (.ref a0), .val (.int (-1 : Int32)), .val (.int (3 : Int32)), .val (.int (8 : Int32))] [(.int (3 : Int32)), (.ref a0)]))
  refine OGo.by (fun _ k => XS.iloadN X4.here hx rfl (hb hby d6_12) rfl k) ?_
  show OGo p e below _ (T4.setTop (mkF m 13 #[.val (.ref a0), .val (.int (-1 : Int32)), .val (.int (3 : Int32)), .val (.int (8 : Int32))] [(.int (-1 : Int32)), (.int (3 : Int32)), (.ref a0)]))
  obtain ⟨cl5, Ar5, q5, S5, M5, Hs5, G5⟩ := id V4
  obtain ⟨T5, h5, X5, e5, W5, st5⟩ := stI X4 hx hZ e4 Ar5 (j := (3 : Int32)) (inb_of S5 ⟨(by decide), (by decide)⟩) (g := (mkF m 13 #[.val (.ref a0), .val (.int (-1 : Int32)), .val (.int (3 : Int32)), .val (.int (8 : Int32))] [(.int (-1 : Int32)), (.int (3 : Int32)), (.ref a0)])) rfl rfl (hb hby d6_13)
  refine OGo.by st5 ?_
  have N5 := Fr.snoc X5 N4 g_a0
  have K5 : Keep h0 h5 [a0] := (K4).wr W5 (Or.inl (List.mem_of_getElem? (i := 0) rfl))
  have V5 : Arv Z h5 a0 ka .int (8 : Int32) [(.int (-1 : Int32)), (.int (-1 : Int32)), (.int (-1 : Int32)), (.int (-1 : Int32)), (.int (0 : Int32)), (.int (0 : Int32)), (.int (0 : Int32)), (.int (0 : Int32))] (.int (0 : Int32)) := Arv.set Ar5 q5 S5 M5 Hs5 G5 rfl W5 3 rfl (Nat.le_of_ble_eq_true rfl)
  show OGo p e below _ (T5.setTop (mkF m 14 #[.val (.ref a0), .val (.int (-1 : Int32)), .val (.int (3 : Int32)), .val (.int (8 : Int32))] []))
  refine OGo.by (fun _ k => XS.iinc X5.here hx rfl (hb hby d6_14) rfl (l' := #[.val (.ref a0), .val (.int (-1 : Int32)), .val (.int (4 : Int32)), .val (.int (8 : Int32))]) rfl k) ?_
  show OGo p e below _ (T5.setTop (mkF m 17 #[.val (.ref a0), .val (.int (-1 : Int32)), .val (.int (4 : Int32)), .val (.int (8 : Int32))] []))
  refine OGo.by (fun _ k => XS.goto X5.here hx rfl (pc0 := 17) (pc' := 5) rfl (hb hby d6_17) (by decide) (by decide) k) ?_
  show OGo p e below _ (T5.setTop (mkF m 5 #[.val (.ref a0), .val (.int (-1 : Int32)), .val (.int (4 : Int32)), .val (.int (8 : Int32))] []))
  refine OGo.by (fun _ k => XS.iloadN X5.here hx rfl (hb hby d6_5) rfl k) ?_
  show OGo p e below _ (T5.setTop (mkF m 6 #[.val (.ref a0), .val (.int (-1 : Int32)), .val (.int (4 : Int32)), .val (.int (8 : Int32))] [(.int (4 : Int32))]))
  refine OGo.by (fun _ k => XS.iloadN X5.here hx rfl (hb hby d6_6) rfl k) ?_
  show OGo p e below _ (T5.setTop (mkF m 7 #[.val (.ref a0), .val (.int (-1 : Int32)), .val (.int (4 : Int32)), .val (.int (8 : Int32))] [(.int (8 : Int32)), (.int (4 : Int32))]))
  refine OGo.by (fun _ k => XS.icmpNo X5.here hx rfl (hb hby d6_7) rfl (tlt (by decide : (4 : Int32) < (8 : Int32))).2.1 k) ?_
  show OGo p e below _ (T5.setTop (mkF m 10 #[.val (.ref a0), .val (.int (-1 : Int32)), .val (.int (4 : Int32)), .val (.int (8 : Int32))] []))
  refine OGo.by (fun _ k => XS.aloadN X5.here hx rfl (hb hby d6_10) rfl rfl k) ?_
  show OGo p e below _ (T5.setTop (mkF m 11 #[.val (.ref a0), .val (.int (-1 : Int32)), .val (.int (4 : Int32)), .val (.int (8 : Int32))] [(.ref a0)]))
  refine OGo.by (fun _ k => XS.iloadN X5.here hx rfl (hb hby d6_11) rfl k) ?_
  show OGo p e below _ (T5.setTop (mkF m 12 #[.val (.ref a0), .val (.int (-1 : Int32)), .val (.int (4 : Int32)), .val (.int (8 : Int32))] [(.int (4 : Int32)), (.ref a0)]))
  refine OGo.by (fun _ k => XS.iloadN X5.here hx rfl (hb hby d6_12) rfl k) ?_
  show OGo p e below _ (T5.setTop (mkF m 13 #[.val (.ref a0), .val (.int (-1 : Int32)), .val (.int (4 : Int32)), .val (.int (8 : Int32))] [(.int (-1 : Int32)), (.int (4 : Int32)), (.ref a0)]))
  obtain ⟨cl6, Ar6, q6, S6, M6, Hs6, G6⟩ := id V5
  obtain ⟨T6, h6, X6, e6, W6, st6⟩ := stI X5 hx hZ e5 Ar6 (j := (4 : Int32)) (inb_of S6 ⟨(by decide), (by decide)⟩) (g := (mkF m 13 #[.val (.ref a0), .val (.int (-1 : Int32)), .val (.int (4 : Int32)), .val (.int (8 : Int32))] [(.int (-1 : Int32)), (.int (4 : Int32)), (.ref a0)])) rfl rfl (hb hby d6_13)
  refine OGo.by st6 ?_
  have N6 := Fr.snoc X6 N5 g_a0
  have K6 : Keep h0 h6 [a0] := (K5).wr W6 (Or.inl (List.mem_of_getElem? (i := 0) rfl))
  have V6 : Arv Z h6 a0 ka .int (8 : Int32) [(.int (-1 : Int32)), (.int (-1 : Int32)), (.int (-1 : Int32)), (.int (-1 : Int32)), (.int (-1 : Int32)), (.int (0 : Int32)), (.int (0 : Int32)), (.int (0 : Int32))] (.int (0 : Int32)) := Arv.set Ar6 q6 S6 M6 Hs6 G6 rfl W6 4 rfl (Nat.le_of_ble_eq_true rfl)
  show OGo p e below _ (T6.setTop (mkF m 14 #[.val (.ref a0), .val (.int (-1 : Int32)), .val (.int (4 : Int32)), .val (.int (8 : Int32))] []))
  refine OGo.by (fun _ k => XS.iinc X6.here hx rfl (hb hby d6_14) rfl (l' := #[.val (.ref a0), .val (.int (-1 : Int32)), .val (.int (5 : Int32)), .val (.int (8 : Int32))]) rfl k) ?_
  show OGo p e below _ (T6.setTop (mkF m 17 #[.val (.ref a0), .val (.int (-1 : Int32)), .val (.int (5 : Int32)), .val (.int (8 : Int32))] []))
  refine OGo.by (fun _ k => XS.goto X6.here hx rfl (pc0 := 17) (pc' := 5) rfl (hb hby d6_17) (by decide) (by decide) k) ?_
  show OGo p e below _ (T6.setTop (mkF m 5 #[.val (.ref a0), .val (.int (-1 : Int32)), .val (.int (5 : Int32)), .val (.int (8 : Int32))] []))
  refine OGo.by (fun _ k => XS.iloadN X6.here hx rfl (hb hby d6_5) rfl k) ?_
  show OGo p e below _ (T6.setTop (mkF m 6 #[.val (.ref a0), .val (.int (-1 : Int32)), .val (.int (5 : Int32)), .val (.int (8 : Int32))] [(.int (5 : Int32))]))
  refine OGo.by (fun _ k => XS.iloadN X6.here hx rfl (hb hby d6_6) rfl k) ?_
  show OGo p e below _ (T6.setTop (mkF m 7 #[.val (.ref a0), .val (.int (-1 : Int32)), .val (.int (5 : Int32)), .val (.int (8 : Int32))] [(.int (8 : Int32)), (.int (5 : Int32))]))
  refine OGo.by (fun _ k => XS.icmpNo X6.here hx rfl (hb hby d6_7) rfl (tlt (by decide : (5 : Int32) < (8 : Int32))).2.1 k) ?_
  show OGo p e below _ (T6.setTop (mkF m 10 #[.val (.ref a0), .val (.int (-1 : Int32)), .val (.int (5 : Int32)), .val (.int (8 : Int32))] []))
  refine OGo.by (fun _ k => XS.aloadN X6.here hx rfl (hb hby d6_10) rfl rfl k) ?_
  show OGo p e below _ (T6.setTop (mkF m 11 #[.val (.ref a0), .val (.int (-1 : Int32)), .val (.int (5 : Int32)), .val (.int (8 : Int32))] [(.ref a0)]))
  refine OGo.by (fun _ k => XS.iloadN X6.here hx rfl (hb hby d6_11) rfl k) ?_
  show OGo p e below _ (T6.setTop (mkF m 12 #[.val (.ref a0), .val (.int (-1 : Int32)), .val (.int (5 : Int32)), .val (.int (8 : Int32))] [(.int (5 : Int32)), (.ref a0)]))
  refine OGo.by (fun _ k => XS.iloadN X6.here hx rfl (hb hby d6_12) rfl k) ?_
  show OGo p e below _ (T6.setTop (mkF m 13 #[.val (.ref a0), .val (.int (-1 : Int32)), .val (.int (5 : Int32)), .val (.int (8 : Int32))] [(.int (-1 : Int32)), (.int (5 : Int32)), (.ref a0)]))
  obtain ⟨cl7, Ar7, q7, S7, M7, Hs7, G7⟩ := id V6
  obtain ⟨T7, h7, X7, e7, W7, st7⟩ := stI X6 hx hZ e6 Ar7 (j := (5 : Int32)) (inb_of S7 ⟨(by decide), (by decide)⟩) (g := (mkF m 13 #[.val (.ref a0), .val (.int (-1 : Int32)), .val (.int (5 : Int32)), .val (.int (8 : Int32))] [(.int (-1 : Int32)), (.int (5 : Int32)), (.ref a0)])) rfl rfl (hb hby d6_13)
  refine OGo.by st7 ?_
  have N7 := Fr.snoc X7 N6 g_a0
  have K7 : Keep h0 h7 [a0] := (K6).wr W7 (Or.inl (List.mem_of_getElem? (i := 0) rfl))
  have V7 : Arv Z h7 a0 ka .int (8 : Int32) [(.int (-1 : Int32)), (.int (-1 : Int32)), (.int (-1 : Int32)), (.int (-1 : Int32)), (.int (-1 : Int32)), (.int (-1 : Int32)), (.int (0 : Int32)), (.int (0 : Int32))] (.int (0 : Int32)) := Arv.set Ar7 q7 S7 M7 Hs7 G7 rfl W7 5 rfl (Nat.le_of_ble_eq_true rfl)
  show OGo p e below _ (T7.setTop (mkF m 14 #[.val (.ref a0), .val (.int (-1 : Int32)), .val (.int (5 : Int32)), .val (.int (8 : Int32))] []))
  refine OGo.by (fun _ k => XS.iinc X7.here hx rfl (hb hby d6_14) rfl (l' := #[.val (.ref a0), .val (.int (-1 : Int32)), .val (.int (6 : Int32)), .val (.int (8 : Int32))]) rfl k) ?_
  show OGo p e below _ (T7.setTop (mkF m 17 #[.val (.ref a0), .val (.int (-1 : Int32)), .val (.int (6 : Int32)), .val (.int (8 : Int32))] []))
  refine OGo.by (fun _ k => XS.goto X7.here hx rfl (pc0 := 17) (pc' := 5) rfl (hb hby d6_17) (by decide) (by decide) k) ?_
  show OGo p e below _ (T7.setTop (mkF m 5 #[.val (.ref a0), .val (.int (-1 : Int32)), .val (.int (6 : Int32)), .val (.int (8 : Int32))] []))
  refine OGo.by (fun _ k => XS.iloadN X7.here hx rfl (hb hby d6_5) rfl k) ?_
  show OGo p e below _ (T7.setTop (mkF m 6 #[.val (.ref a0), .val (.int (-1 : Int32)), .val (.int (6 : Int32)), .val (.int (8 : Int32))] [(.int (6 : Int32))]))
  refine OGo.by (fun _ k => XS.iloadN X7.here hx rfl (hb hby d6_6) rfl k) ?_
  show OGo p e below _ (T7.setTop (mkF m 7 #[.val (.ref a0), .val (.int (-1 : Int32)), .val (.int (6 : Int32)), .val (.int (8 : Int32))] [(.int (8 : Int32)), (.int (6 : Int32))]))
  refine OGo.by (fun _ k => XS.icmpNo X7.here hx rfl (hb hby d6_7) rfl (tlt (by decide : (6 : Int32) < (8 : Int32))).2.1 k) ?_
  show OGo p e below _ (T7.setTop (mkF m 10 #[.val (.ref a0), .val (.int (-1 : Int32)), .val (.int (6 : Int32)), .val (.int (8 : Int32))] []))
  refine OGo.by (fun _ k => XS.aloadN X7.here hx rfl (hb hby d6_10) rfl rfl k) ?_
  show OGo p e below _ (T7.setTop (mkF m 11 #[.val (.ref a0), .val (.int (-1 : Int32)), .val (.int (6 : Int32)), .val (.int (8 : Int32))] [(.ref a0)]))
  refine OGo.by (fun _ k => XS.iloadN X7.here hx rfl (hb hby d6_11) rfl k) ?_
  show OGo p e below _ (T7.setTop (mkF m 12 #[.val (.ref a0), .val (.int (-1 : Int32)), .val (.int (6 : Int32)), .val (.int (8 : Int32))] [(.int (6 : Int32)), (.ref a0)]))
  refine OGo.by (fun _ k => XS.iloadN X7.here hx rfl (hb hby d6_12) rfl k) ?_
  show OGo p e below _ (T7.setTop (mkF m 13 #[.val (.ref a0), .val (.int (-1 : Int32)), .val (.int (6 : Int32)), .val (.int (8 : Int32))] [(.int (-1 : Int32)), (.int (6 : Int32)), (.ref a0)]))
  obtain ⟨cl8, Ar8, q8, S8, M8, Hs8, G8⟩ := id V7
  obtain ⟨T8, h8, X8, e8, W8, st8⟩ := stI X7 hx hZ e7 Ar8 (j := (6 : Int32)) (inb_of S8 ⟨(by decide), (by decide)⟩) (g := (mkF m 13 #[.val (.ref a0), .val (.int (-1 : Int32)), .val (.int (6 : Int32)), .val (.int (8 : Int32))] [(.int (-1 : Int32)), (.int (6 : Int32)), (.ref a0)])) rfl rfl (hb hby d6_13)
  refine OGo.by st8 ?_
  have N8 := Fr.snoc X8 N7 g_a0
  have K8 : Keep h0 h8 [a0] := (K7).wr W8 (Or.inl (List.mem_of_getElem? (i := 0) rfl))
  have V8 : Arv Z h8 a0 ka .int (8 : Int32) [(.int (-1 : Int32)), (.int (-1 : Int32)), (.int (-1 : Int32)), (.int (-1 : Int32)), (.int (-1 : Int32)), (.int (-1 : Int32)), (.int (-1 : Int32)), (.int (0 : Int32))] (.int (0 : Int32)) := Arv.set Ar8 q8 S8 M8 Hs8 G8 rfl W8 6 rfl (Nat.le_of_ble_eq_true rfl)
  show OGo p e below _ (T8.setTop (mkF m 14 #[.val (.ref a0), .val (.int (-1 : Int32)), .val (.int (6 : Int32)), .val (.int (8 : Int32))] []))
  refine OGo.by (fun _ k => XS.iinc X8.here hx rfl (hb hby d6_14) rfl (l' := #[.val (.ref a0), .val (.int (-1 : Int32)), .val (.int (7 : Int32)), .val (.int (8 : Int32))]) rfl k) ?_
  show OGo p e below _ (T8.setTop (mkF m 17 #[.val (.ref a0), .val (.int (-1 : Int32)), .val (.int (7 : Int32)), .val (.int (8 : Int32))] []))
  refine OGo.by (fun _ k => XS.goto X8.here hx rfl (pc0 := 17) (pc' := 5) rfl (hb hby d6_17) (by decide) (by decide) k) ?_
  show OGo p e below _ (T8.setTop (mkF m 5 #[.val (.ref a0), .val (.int (-1 : Int32)), .val (.int (7 : Int32)), .val (.int (8 : Int32))] []))
  refine OGo.by (fun _ k => XS.iloadN X8.here hx rfl (hb hby d6_5) rfl k) ?_
  show OGo p e below _ (T8.setTop (mkF m 6 #[.val (.ref a0), .val (.int (-1 : Int32)), .val (.int (7 : Int32)), .val (.int (8 : Int32))] [(.int (7 : Int32))]))
  refine OGo.by (fun _ k => XS.iloadN X8.here hx rfl (hb hby d6_6) rfl k) ?_
  show OGo p e below _ (T8.setTop (mkF m 7 #[.val (.ref a0), .val (.int (-1 : Int32)), .val (.int (7 : Int32)), .val (.int (8 : Int32))] [(.int (8 : Int32)), (.int (7 : Int32))]))
  refine OGo.by (fun _ k => XS.icmpNo X8.here hx rfl (hb hby d6_7) rfl (tlt (by decide : (7 : Int32) < (8 : Int32))).2.1 k) ?_
  show OGo p e below _ (T8.setTop (mkF m 10 #[.val (.ref a0), .val (.int (-1 : Int32)), .val (.int (7 : Int32)), .val (.int (8 : Int32))] []))
  refine OGo.by (fun _ k => XS.aloadN X8.here hx rfl (hb hby d6_10) rfl rfl k) ?_
  show OGo p e below _ (T8.setTop (mkF m 11 #[.val (.ref a0), .val (.int (-1 : Int32)), .val (.int (7 : Int32)), .val (.int (8 : Int32))] [(.ref a0)]))
  refine OGo.by (fun _ k => XS.iloadN X8.here hx rfl (hb hby d6_11) rfl k) ?_
  show OGo p e below _ (T8.setTop (mkF m 12 #[.val (.ref a0), .val (.int (-1 : Int32)), .val (.int (7 : Int32)), .val (.int (8 : Int32))] [(.int (7 : Int32)), (.ref a0)]))
  refine OGo.by (fun _ k => XS.iloadN X8.here hx rfl (hb hby d6_12) rfl k) ?_
  show OGo p e below _ (T8.setTop (mkF m 13 #[.val (.ref a0), .val (.int (-1 : Int32)), .val (.int (7 : Int32)), .val (.int (8 : Int32))] [(.int (-1 : Int32)), (.int (7 : Int32)), (.ref a0)]))
  obtain ⟨cl9, Ar9, q9, S9, M9, Hs9, G9⟩ := id V8
  obtain ⟨T9, h9, X9, e9, W9, st9⟩ := stI X8 hx hZ e8 Ar9 (j := (7 : Int32)) (inb_of S9 ⟨(by decide), (by decide)⟩) (g := (mkF m 13 #[.val (.ref a0), .val (.int (-1 : Int32)), .val (.int (7 : Int32)), .val (.int (8 : Int32))] [(.int (-1 : Int32)), (.int (7 : Int32)), (.ref a0)])) rfl rfl (hb hby d6_13)
  refine OGo.by st9 ?_
  have N9 := Fr.snoc X9 N8 g_a0
  have K9 : Keep h0 h9 [a0] := (K8).wr W9 (Or.inl (List.mem_of_getElem? (i := 0) rfl))
  have V9 : Arv Z h9 a0 ka .int (8 : Int32) [(.int (-1 : Int32)), (.int (-1 : Int32)), (.int (-1 : Int32)), (.int (-1 : Int32)), (.int (-1 : Int32)), (.int (-1 : Int32)), (.int (-1 : Int32)), (.int (-1 : Int32))] (.int (0 : Int32)) := Arv.set Ar9 q9 S9 M9 Hs9 G9 rfl W9 7 rfl (Nat.le_of_ble_eq_true rfl)
  show OGo p e below _ (T9.setTop (mkF m 14 #[.val (.ref a0), .val (.int (-1 : Int32)), .val (.int (7 : Int32)), .val (.int (8 : Int32))] []))
  refine OGo.by (fun _ k => XS.iinc X9.here hx rfl (hb hby d6_14) rfl (l' := #[.val (.ref a0), .val (.int (-1 : Int32)), .val (.int (8 : Int32)), .val (.int (8 : Int32))]) rfl k) ?_
  show OGo p e below _ (T9.setTop (mkF m 17 #[.val (.ref a0), .val (.int (-1 : Int32)), .val (.int (8 : Int32)), .val (.int (8 : Int32))] []))
  refine OGo.by (fun _ k => XS.goto X9.here hx rfl (pc0 := 17) (pc' := 5) rfl (hb hby d6_17) (by decide) (by decide) k) ?_
  show OGo p e below _ (T9.setTop (mkF m 5 #[.val (.ref a0), .val (.int (-1 : Int32)), .val (.int (8 : Int32)), .val (.int (8 : Int32))] []))
  refine OGo.by (fun _ k => XS.iloadN X9.here hx rfl (hb hby d6_5) rfl k) ?_
  show OGo p e below _ (T9.setTop (mkF m 6 #[.val (.ref a0), .val (.int (-1 : Int32)), .val (.int (8 : Int32)), .val (.int (8 : Int32))] [(.int (8 : Int32))]))
  refine OGo.by (fun _ k => XS.iloadN X9.here hx rfl (hb hby d6_6) rfl k) ?_
  show OGo p e below _ (T9.setTop (mkF m 7 #[.val (.ref a0), .val (.int (-1 : Int32)), .val (.int (8 : Int32)), .val (.int (8 : Int32))] [(.int (8 : Int32)), (.int (8 : Int32))]))
  refine OGo.by (fun _ k => XS.icmpYes X9.here hx rfl (pc0 := 7) (pc' := 20) rfl (hb hby d6_7) rfl (flt (by decide : ¬ ((8 : Int32) < (8 : Int32)))).2.1 (by decide) (by decide) k) ?_
  show OGo p e below _ (T9.setTop (mkF m 20 #[.val (.ref a0), .val (.int (-1 : Int32)), .val (.int (8 : Int32)), .val (.int (8 : Int32))] []))
  obtain ⟨fs, hr, hrun, hended, hW, hsame⟩ := X9.leave (v := none) (fun _ => rfl)
  refine OGo.ret (X9.returnOut hx Bd.returns (hb hby d6_20) hr) hrun hended ⟨_, _, rfl, ?_, ⟨_, rfl⟩, hW, hsame.mono (by decide) (by decide)⟩
  show Q_rm_fi8 Z a0 ka h0 n0 _ T9.heap _
  rw [e9]
  exact ⟨rfl, N9, K9, V9⟩
theorem ef_rm_fi16 (m : MethodId) (a0 : Addr) (ka : ClassId) : entryFrame m #[(.ref a0), (.int (-1 : Int32))] 4 = mkF m 0 #[.val (.ref a0), .val (.int (-1 : Int32)), .unset, .unset] [] := by first | (simp [entryFrame, mkF, argsToLocals, Value.category]; done) | rfl
def Q_rm_fi16 (Z : State) (a0 : Addr) (ka : ClassId) (h0 : Heap) (n0 : Nat) (v : Option Value) (h : Heap) (L : List Loc) : Prop := v = none ∧ Fr n0 L ∧ Keep h0 h [a0] ∧ (Arv Z h a0 ka .int (16 : Int32) [(.int (-1 : Int32)), (.int (-1 : Int32)), (.int (-1 : Int32)), (.int (-1 : Int32)), (.int (-1 : Int32)), (.int (-1 : Int32)), (.int (-1 : Int32)), (.int (-1 : Int32)), (.int (-1 : Int32)), (.int (-1 : Int32)), (.int (-1 : Int32)), (.int (-1 : Int32)), (.int (-1 : Int32)), (.int (-1 : Int32)), (.int (-1 : Int32)), (.int (-1 : Int32))] (.int (0 : Int32)))
set_option maxRecDepth 65536 in
set_option maxHeartbeats 40000000 in
theorem rm_fi16 (l : Launch) (Z : State) (av0 : Array Value) (hw : ∀ d ∈ tables_1, d.before av0 Z = true) (ws : List Jvm.Cond) (a0 : Addr) (ka : ClassId) (h0 : Heap) (n0 : Nat) (Z0 : n0 ≤ h0.size) (A0 : Arv Z h0 a0 ka .int (16 : Int32) [(.int (0 : Int32)), (.int (0 : Int32)), (.int (0 : Int32)), (.int (0 : Int32)), (.int (0 : Int32)), (.int (0 : Int32)), (.int (0 : Int32)), (.int (0 : Int32)), (.int (0 : Int32)), (.int (0 : Int32)), (.int (0 : Int32)), (.int (0 : Int32)), (.int (0 : Int32)), (.int (0 : Int32)), (.int (0 : Int32)), (.int (0 : Int32))] (.int (0 : Int32))) (g_a0 : n0 ≤ a0) :
    MetFree l (⟨"java/util/Arrays", "fill", "([II)V"⟩ : MethodName) (head1 (Jvm.Cond.code (⟨"java/util/Arrays", "fill", "([II)V"⟩ : MethodName) jdk_65_method_103_code 4 none :: ws) ({ frames := 0, cells := 0, slots := 0, locals := 0 } : Room)) (fun a U => a = #[(.ref a0), (.int (-1 : Int32))] ∧ Z.Warmed39 U.vm ∧ U.heap = h0) (fun _ _ _ _ _ => True) (fun _ U o U' => ∃ v L, o = .returned v ∧ Q_rm_fi16 Z a0 ka h0 n0 v U'.heap L ∧ FrameEnd U o U' L ({ frames := 0, cells := 0, slots := 0, locals := 0 } : Room).cells ({ frames := 0, cells := 0, slots := 0, locals := 0 } : Room).slots) := by
  refine MetFree.of_bodySF (plainFor_of_name own_pn6) hisR ?_
  intro p e s m args below meth c s₁ Bd hml0 hP hK
  obtain ⟨rfl, hZ, hh⟩ := hP
  have hx := Bd.exec
  have hby := Bd.bytes
  have hml : c.maxLocals = 4 := hml0
  have hown : s.vm.findClass "java/util/Arrays" = some m.cls := findClass_of_methodNamed Bd.named
  have hnm := (name_of_methodNamed Bd.named Bd.method).1
  have X0 : Stand p l e ({ frames := 0, cells := 0, slots := 0, locals := 0 } : Room) s m #[(.ref a0), (.int (-1 : Int32))] below meth c s₁ [] 0 0 := Stand.of_body Bd
  have e0 : s₁.heap = h0 := by rw [← hh, Bd.state]; rfl
  have N0 := Fr.nil n0
  refine OGo.by (P := fun U' o => ∃ v L, o = .returned v ∧ Q_rm_fi16 Z a0 ka h0 n0 v U'.heap L ∧ FrameEnd s o U' L ({ frames := 0, cells := 0, slots := 0, locals := 0 } : Room).cells ({ frames := 0, cells := 0, slots := 0, locals := 0 } : Room).slots) (fun T_ k_ => castTop (ef_rm_fi16 m a0 ka) k_) ?_
  show OGo p e below _ (s₁.setTop (mkF m 0 #[.val (.ref a0), .val (.int (-1 : Int32)), .unset, .unset] []))
  refine OGo.by (fun _ k => XS.iconst X0.here hx rfl (hb hby d6_0) k) ?_
  show OGo p e below _ (s₁.setTop (mkF m 1 #[.val (.ref a0), .val (.int (-1 : Int32)), .unset, .unset] [(.int (0 : Int32))]))
  refine OGo.by (fun _ k => XS.istoreN X0.here hx rfl (hb hby d6_1) rfl (l' := #[.val (.ref a0), .val (.int (-1 : Int32)), .val (.int (0 : Int32)), .unset]) rfl k) ?_
  show OGo p e below _ (s₁.setTop (mkF m 2 #[.val (.ref a0), .val (.int (-1 : Int32)), .val (.int (0 : Int32)), .unset] []))
  refine OGo.by (fun _ k => XS.aloadN X0.here hx rfl (hb hby d6_2) rfl rfl k) ?_
  show OGo p e below _ (s₁.setTop (mkF m 3 #[.val (.ref a0), .val (.int (-1 : Int32)), .val (.int (0 : Int32)), .unset] [(.ref a0)]))
  obtain ⟨cl1, Ar1, q1, S1, M1, -, -⟩ := id A0
  refine OGo.by (X0.arraylength hx (by rw [e0]; exact Ar1.1) (State.isArrayOf_alike hZ.alike Ar1.2.1) (g := (mkF m 3 #[.val (.ref a0), .val (.int (-1 : Int32)), .val (.int (0 : Int32)), .unset] [(.ref a0)])) rfl rfl (hb hby d6_3)) ?_
  rw [len_of S1 M1]
  show OGo p e below _ (s₁.setTop (mkF m 4 #[.val (.ref a0), .val (.int (-1 : Int32)), .val (.int (0 : Int32)), .unset] [(.int (16 : Int32))]))
  refine OGo.by (fun _ k => XS.istoreN X0.here hx rfl (hb hby d6_4) rfl (l' := #[.val (.ref a0), .val (.int (-1 : Int32)), .val (.int (0 : Int32)), .val (.int (16 : Int32))]) rfl k) ?_
  show OGo p e below _ (s₁.setTop (mkF m 5 #[.val (.ref a0), .val (.int (-1 : Int32)), .val (.int (0 : Int32)), .val (.int (16 : Int32))] []))
  refine OGo.by (fun _ k => XS.iloadN X0.here hx rfl (hb hby d6_5) rfl k) ?_
  show OGo p e below _ (s₁.setTop (mkF m 6 #[.val (.ref a0), .val (.int (-1 : Int32)), .val (.int (0 : Int32)), .val (.int (16 : Int32))] [(.int (0 : Int32))]))
  refine OGo.by (fun _ k => XS.iloadN X0.here hx rfl (hb hby d6_6) rfl k) ?_
  show OGo p e below _ (s₁.setTop (mkF m 7 #[.val (.ref a0), .val (.int (-1 : Int32)), .val (.int (0 : Int32)), .val (.int (16 : Int32))] [(.int (16 : Int32)), (.int (0 : Int32))]))
  refine OGo.by (fun _ k => XS.icmpNo X0.here hx rfl (hb hby d6_7) rfl (tlt (by decide : (0 : Int32) < (16 : Int32))).2.1 k) ?_
  show OGo p e below _ (s₁.setTop (mkF m 10 #[.val (.ref a0), .val (.int (-1 : Int32)), .val (.int (0 : Int32)), .val (.int (16 : Int32))] []))
  refine OGo.by (fun _ k => XS.aloadN X0.here hx rfl (hb hby d6_10) rfl rfl k) ?_
  show OGo p e below _ (s₁.setTop (mkF m 11 #[.val (.ref a0), .val (.int (-1 : Int32)), .val (.int (0 : Int32)), .val (.int (16 : Int32))] [(.ref a0)]))
  refine OGo.by (fun _ k => XS.iloadN X0.here hx rfl (hb hby d6_11) rfl k) ?_
  show OGo p e below _ (s₁.setTop (mkF m 12 #[.val (.ref a0), .val (.int (-1 : Int32)), .val (.int (0 : Int32)), .val (.int (16 : Int32))] [(.int (0 : Int32)), (.ref a0)]))
  refine OGo.by (fun _ k => XS.iloadN X0.here hx rfl (hb hby d6_12) rfl k) ?_
  show OGo p e below _ (s₁.setTop (mkF m 13 #[.val (.ref a0), .val (.int (-1 : Int32)), .val (.int (0 : Int32)), .val (.int (16 : Int32))] [(.int (-1 : Int32)), (.int (0 : Int32)), (.ref a0)]))
  obtain ⟨cl2, Ar2, q2, S2, M2, Hs2, G2⟩ := id A0
  obtain ⟨T2, h2, X2, e2, W2, st2⟩ := stI X0 hx hZ e0 Ar2 (j := (0 : Int32)) (inb_of S2 ⟨(by decide), (by decide)⟩) (g := (mkF m 13 #[.val (.ref a0), .val (.int (-1 : Int32)), .val (.int (0 : Int32)), .val (.int (16 : Int32))] [(.int (-1 : Int32)), (.int (0 : Int32)), (.ref a0)])) rfl rfl (hb hby d6_13)
  refine OGo.by st2 ?_
  have N2 := Fr.snoc X2 N0 g_a0
  have K2 : Keep h0 h2 [a0] := ((Keep.refl h0 [a0])).wr W2 (Or.inl (List.mem_of_getElem? (i := 0) rfl))
  have V2 : Arv Z h2 a0 ka .int (16 : Int32) [(.int (-1 : Int32)), (.int (0 : Int32)), (.int (0 : Int32)), (.int (0 : Int32)), (.int (0 : Int32)), (.int (0 : Int32)), (.int (0 : Int32)), (.int (0 : Int32)), (.int (0 : Int32)), (.int (0 : Int32)), (.int (0 : Int32)), (.int (0 : Int32)), (.int (0 : Int32)), (.int (0 : Int32)), (.int (0 : Int32)), (.int (0 : Int32))] (.int (0 : Int32)) := Arv.set Ar2 q2 S2 M2 Hs2 G2 rfl W2 0 rfl (Nat.le_of_ble_eq_true rfl)
  show OGo p e below _ (T2.setTop (mkF m 14 #[.val (.ref a0), .val (.int (-1 : Int32)), .val (.int (0 : Int32)), .val (.int (16 : Int32))] []))
  refine OGo.by (fun _ k => XS.iinc X2.here hx rfl (hb hby d6_14) rfl (l' := #[.val (.ref a0), .val (.int (-1 : Int32)), .val (.int (1 : Int32)), .val (.int (16 : Int32))]) rfl k) ?_
  show OGo p e below _ (T2.setTop (mkF m 17 #[.val (.ref a0), .val (.int (-1 : Int32)), .val (.int (1 : Int32)), .val (.int (16 : Int32))] []))
  refine OGo.by (fun _ k => XS.goto X2.here hx rfl (pc0 := 17) (pc' := 5) rfl (hb hby d6_17) (by decide) (by decide) k) ?_
  show OGo p e below _ (T2.setTop (mkF m 5 #[.val (.ref a0), .val (.int (-1 : Int32)), .val (.int (1 : Int32)), .val (.int (16 : Int32))] []))
  refine OGo.by (fun _ k => XS.iloadN X2.here hx rfl (hb hby d6_5) rfl k) ?_
  show OGo p e below _ (T2.setTop (mkF m 6 #[.val (.ref a0), .val (.int (-1 : Int32)), .val (.int (1 : Int32)), .val (.int (16 : Int32))] [(.int (1 : Int32))]))
  refine OGo.by (fun _ k => XS.iloadN X2.here hx rfl (hb hby d6_6) rfl k) ?_
  show OGo p e below _ (T2.setTop (mkF m 7 #[.val (.ref a0), .val (.int (-1 : Int32)), .val (.int (1 : Int32)), .val (.int (16 : Int32))] [(.int (16 : Int32)), (.int (1 : Int32))]))
  refine OGo.by (fun _ k => XS.icmpNo X2.here hx rfl (hb hby d6_7) rfl (tlt (by decide : (1 : Int32) < (16 : Int32))).2.1 k) ?_
  show OGo p e below _ (T2.setTop (mkF m 10 #[.val (.ref a0), .val (.int (-1 : Int32)), .val (.int (1 : Int32)), .val (.int (16 : Int32))] []))
  refine OGo.by (fun _ k => XS.aloadN X2.here hx rfl (hb hby d6_10) rfl rfl k) ?_
  show OGo p e below _ (T2.setTop (mkF m 11 #[.val (.ref a0), .val (.int (-1 : Int32)), .val (.int (1 : Int32)), .val (.int (16 : Int32))] [(.ref a0)]))
  refine OGo.by (fun _ k => XS.iloadN X2.here hx rfl (hb hby d6_11) rfl k) ?_
  show OGo p e below _ (T2.setTop (mkF m 12 #[.val (.ref a0), .val (.int (-1 : Int32)), .val (.int (1 : Int32)), .val (.int (16 : Int32))] [(.int (1 : Int32)), (.ref a0)]))
  refine OGo.by (fun _ k => XS.iloadN X2.here hx rfl (hb hby d6_12) rfl k) ?_
  show OGo p e below _ (T2.setTop (mkF m 13 #[.val (.ref a0), .val (.int (-1 : Int32)), .val (.int (1 : Int32)), .val (.int (16 : Int32))] [(.int (-1 : Int32)), (.int (1 : Int32)), (.ref a0)]))
  obtain ⟨cl3, Ar3, q3, S3, M3, Hs3, G3⟩ := id V2
  obtain ⟨T3, h3, X3, e3, W3, st3⟩ := stI X2 hx hZ e2 Ar3 (j := (1 : Int32)) (inb_of S3 ⟨(by decide), (by decide)⟩) (g := (mkF m 13 #[.val (.ref a0), .val (.int (-1 : Int32)), .val (.int (1 : Int32)), .val (.int (16 : Int32))] [(.int (-1 : Int32)), (.int (1 : Int32)), (.ref a0)])) rfl rfl (hb hby d6_13)
  refine OGo.by st3 ?_
  have N3 := Fr.snoc X3 N2 g_a0
  have K3 : Keep h0 h3 [a0] := (K2).wr W3 (Or.inl (List.mem_of_getElem? (i := 0) rfl))
  have V3 : Arv Z h3 a0 ka .int (16 : Int32) [(.int (-1 : Int32)), (.int (-1 : Int32)), (.int (0 : Int32)), (.int (0 : Int32)), (.int (0 : Int32)), (.int (0 : Int32)), (.int (0 : Int32)), (.int (0 : Int32)), (.int (0 : Int32)), (.int (0 : Int32)), (.int (0 : Int32)), (.int (0 : Int32)), (.int (0 : Int32)), (.int (0 : Int32)), (.int (0 : Int32)), (.int (0 : Int32))] (.int (0 : Int32)) := Arv.set Ar3 q3 S3 M3 Hs3 G3 rfl W3 1 rfl (Nat.le_of_ble_eq_true rfl)
  show OGo p e below _ (T3.setTop (mkF m 14 #[.val (.ref a0), .val (.int (-1 : Int32)), .val (.int (1 : Int32)), .val (.int (16 : Int32))] []))
  refine OGo.by (fun _ k => XS.iinc X3.here hx rfl (hb hby d6_14) rfl (l' := #[.val (.ref a0), .val (.int (-1 : Int32)), .val (.int (2 : Int32)), .val (.int (16 : Int32))]) rfl k) ?_
  show OGo p e below _ (T3.setTop (mkF m 17 #[.val (.ref a0), .val (.int (-1 : Int32)), .val (.int (2 : Int32)), .val (.int (16 : Int32))] []))
  refine OGo.by (fun _ k => XS.goto X3.here hx rfl (pc0 := 17) (pc' := 5) rfl (hb hby d6_17) (by decide) (by decide) k) ?_
  show OGo p e below _ (T3.setTop (mkF m 5 #[.val (.ref a0), .val (.int (-1 : Int32)), .val (.int (2 : Int32)), .val (.int (16 : Int32))] []))
  refine OGo.by (fun _ k => XS.iloadN X3.here hx rfl (hb hby d6_5) rfl k) ?_
  show OGo p e below _ (T3.setTop (mkF m 6 #[.val (.ref a0), .val (.int (-1 : Int32)), .val (.int (2 : Int32)), .val (.int (16 : Int32))] [(.int (2 : Int32))]))
  refine OGo.by (fun _ k => XS.iloadN X3.here hx rfl (hb hby d6_6) rfl k) ?_
  show OGo p e below _ (T3.setTop (mkF m 7 #[.val (.ref a0), .val (.int (-1 : Int32)), .val (.int (2 : Int32)), .val (.int (16 : Int32))] [(.int (16 : Int32)), (.int (2 : Int32))]))
  refine OGo.by (fun _ k => XS.icmpNo X3.here hx rfl (hb hby d6_7) rfl (tlt (by decide : (2 : Int32) < (16 : Int32))).2.1 k) ?_
  show OGo p e below _ (T3.setTop (mkF m 10 #[.val (.ref a0), .val (.int (-1 : Int32)), .val (.int (2 : Int32)), .val (.int (16 : Int32))] []))
  refine OGo.by (fun _ k => XS.aloadN X3.here hx rfl (hb hby d6_10) rfl rfl k) ?_
  show OGo p e below _ (T3.setTop (mkF m 11 #[.val (.ref a0), .val (.int (-1 : Int32)), .val (.int (2 : Int32)), .val (.int (16 : Int32))] [(.ref a0)]))
  refine OGo.by (fun _ k => XS.iloadN X3.here hx rfl (hb hby d6_11) rfl k) ?_
  show OGo p e below _ (T3.setTop (mkF m 12 #[.val (.ref a0), .val (.int (-1 : Int32)), .val (.int (2 : Int32)), .val (.int (16 : Int32))] [(.int (2 : Int32)), (.ref a0)]))
  refine OGo.by (fun _ k => XS.iloadN X3.here hx rfl (hb hby d6_12) rfl k) ?_
  show OGo p e below _ (T3.setTop (mkF m 13 #[.val (.ref a0), .val (.int (-1 : Int32)), .val (.int (2 : Int32)), .val (.int (16 : Int32))] [(.int (-1 : Int32)), (.int (2 : Int32)), (.ref a0)]))
  obtain ⟨cl4, Ar4, q4, S4, M4, Hs4, G4⟩ := id V3
  obtain ⟨T4, h4, X4, e4, W4, st4⟩ := stI X3 hx hZ e3 Ar4 (j := (2 : Int32)) (inb_of S4 ⟨(by decide), (by decide)⟩) (g := (mkF m 13 #[.val (.ref a0), .val (.int (-1 : Int32)), .val (.int (2 : Int32)), .val (.int (16 : Int32))] [(.int (-1 : Int32)), (.int (2 : Int32)), (.ref a0)])) rfl rfl (hb hby d6_13)
  refine OGo.by st4 ?_
  have N4 := Fr.snoc X4 N3 g_a0
  have K4 : Keep h0 h4 [a0] := (K3).wr W4 (Or.inl (List.mem_of_getElem? (i := 0) rfl))
  have V4 : Arv Z h4 a0 ka .int (16 : Int32) [(.int (-1 : Int32)), (.int (-1 : Int32)), (.int (-1 : Int32)), (.int (0 : Int32)), (.int (0 : Int32)), (.int (0 : Int32)), (.int (0 : Int32)), (.int (0 : Int32)), (.int (0 : Int32)), (.int (0 : Int32)), (.int (0 : Int32)), (.int (0 : Int32)), (.int (0 : Int32)), (.int (0 : Int32)), (.int (0 : Int32)), (.int (0 : Int32))] (.int (0 : Int32)) := Arv.set Ar4 q4 S4 M4 Hs4 G4 rfl W4 2 rfl (Nat.le_of_ble_eq_true rfl)
  show OGo p e below _ (T4.setTop (mkF m 14 #[.val (.ref a0), .val (.int (-1 : Int32)), .val (.int (2 : Int32)), .val (.int (16 : Int32))] []))
  refine OGo.by (fun _ k => XS.iinc X4.here hx rfl (hb hby d6_14) rfl (l' := #[.val (.ref a0), .val (.int (-1 : Int32)), .val (.int (3 : Int32)), .val (.int (16 : Int32))]) rfl k) ?_
  show OGo p e below _ (T4.setTop (mkF m 17 #[.val (.ref a0), .val (.int (-1 : Int32)), .val (.int (3 : Int32)), .val (.int (16 : Int32))] []))
  refine OGo.by (fun _ k => XS.goto X4.here hx rfl (pc0 := 17) (pc' := 5) rfl (hb hby d6_17) (by decide) (by decide) k) ?_
  show OGo p e below _ (T4.setTop (mkF m 5 #[.val (.ref a0), .val (.int (-1 : Int32)), .val (.int (3 : Int32)), .val (.int (16 : Int32))] []))
  refine OGo.by (fun _ k => XS.iloadN X4.here hx rfl (hb hby d6_5) rfl k) ?_
  show OGo p e below _ (T4.setTop (mkF m 6 #[.val (.ref a0), .val (.int (-1 : Int32)), .val (.int (3 : Int32)), .val (.int (16 : Int32))] [(.int (3 : Int32))]))
  refine OGo.by (fun _ k => XS.iloadN X4.here hx rfl (hb hby d6_6) rfl k) ?_
  show OGo p e below _ (T4.setTop (mkF m 7 #[.val (.ref a0), .val (.int (-1 : Int32)), .val (.int (3 : Int32)), .val (.int (16 : Int32))] [(.int (16 : Int32)), (.int (3 : Int32))]))
  refine OGo.by (fun _ k => XS.icmpNo X4.here hx rfl (hb hby d6_7) rfl (tlt (by decide : (3 : Int32) < (16 : Int32))).2.1 k) ?_
  show OGo p e below _ (T4.setTop (mkF m 10 #[.val (.ref a0), .val (.int (-1 : Int32)), .val (.int (3 : Int32)), .val (.int (16 : Int32))] []))
  refine OGo.by (fun _ k => XS.aloadN X4.here hx rfl (hb hby d6_10) rfl rfl k) ?_
  show OGo p e below _ (T4.setTop (mkF m 11 #[.val (.ref a0), .val (.int (-1 : Int32)), .val (.int (3 : Int32)), .val (.int (16 : Int32))] [(.ref a0)]))
  refine OGo.by (fun _ k => XS.iloadN X4.here hx rfl (hb hby d6_11) rfl k) ?_
  show OGo p e below _ (T4.setTop (mkF m 12 #[.val (.ref a0), .val (.int (-1 : Int32)), .val (.int (3 : Int32)), .val (.int (16 : Int32))] [(.int (3 : Int32)), (.ref a0)]))
  refine OGo.by (fun _ k => XS.iloadN X4.here hx rfl (hb hby d6_12) rfl k) ?_
  show OGo p e below _ (T4.setTop (mkF m 13 #[.val (.ref a0), .val (.int (-1 : Int32)), .val (.int (3 : Int32)), .val (.int (16 : Int32))] [(.int (-1 : Int32)), (.int (3 : Int32)), (.ref a0)]))
  obtain ⟨cl5, Ar5, q5, S5, M5, Hs5, G5⟩ := id V4
  obtain ⟨T5, h5, X5, e5, W5, st5⟩ := stI X4 hx hZ e4 Ar5 (j := (3 : Int32)) (inb_of S5 ⟨(by decide), (by decide)⟩) (g := (mkF m 13 #[.val (.ref a0), .val (.int (-1 : Int32)), .val (.int (3 : Int32)), .val (.int (16 : Int32))] [(.int (-1 : Int32)), (.int (3 : Int32)), (.ref a0)])) rfl rfl (hb hby d6_13)
  refine OGo.by st5 ?_
  have N5 := Fr.snoc X5 N4 g_a0
  have K5 : Keep h0 h5 [a0] := (K4).wr W5 (Or.inl (List.mem_of_getElem? (i := 0) rfl))
  have V5 : Arv Z h5 a0 ka .int (16 : Int32) [(.int (-1 : Int32)), (.int (-1 : Int32)), (.int (-1 : Int32)), (.int (-1 : Int32)), (.int (0 : Int32)), (.int (0 : Int32)), (.int (0 : Int32)), (.int (0 : Int32)), (.int (0 : Int32)), (.int (0 : Int32)), (.int (0 : Int32)), (.int (0 : Int32)), (.int (0 : Int32)), (.int (0 : Int32)), (.int (0 : Int32)), (.int (0 : Int32))] (.int (0 : Int32)) := Arv.set Ar5 q5 S5 M5 Hs5 G5 rfl W5 3 rfl (Nat.le_of_ble_eq_true rfl)
  show OGo p e below _ (T5.setTop (mkF m 14 #[.val (.ref a0), .val (.int (-1 : Int32)), .val (.int (3 : Int32)), .val (.int (16 : Int32))] []))
  refine OGo.by (fun _ k => XS.iinc X5.here hx rfl (hb hby d6_14) rfl (l' := #[.val (.ref a0), .val (.int (-1 : Int32)), .val (.int (4 : Int32)), .val (.int (16 : Int32))]) rfl k) ?_
  show OGo p e below _ (T5.setTop (mkF m 17 #[.val (.ref a0), .val (.int (-1 : Int32)), .val (.int (4 : Int32)), .val (.int (16 : Int32))] []))
  refine OGo.by (fun _ k => XS.goto X5.here hx rfl (pc0 := 17) (pc' := 5) rfl (hb hby d6_17) (by decide) (by decide) k) ?_
  show OGo p e below _ (T5.setTop (mkF m 5 #[.val (.ref a0), .val (.int (-1 : Int32)), .val (.int (4 : Int32)), .val (.int (16 : Int32))] []))
  refine OGo.by (fun _ k => XS.iloadN X5.here hx rfl (hb hby d6_5) rfl k) ?_
  show OGo p e below _ (T5.setTop (mkF m 6 #[.val (.ref a0), .val (.int (-1 : Int32)), .val (.int (4 : Int32)), .val (.int (16 : Int32))] [(.int (4 : Int32))]))
  refine OGo.by (fun _ k => XS.iloadN X5.here hx rfl (hb hby d6_6) rfl k) ?_
  show OGo p e below _ (T5.setTop (mkF m 7 #[.val (.ref a0), .val (.int (-1 : Int32)), .val (.int (4 : Int32)), .val (.int (16 : Int32))] [(.int (16 : Int32)), (.int (4 : Int32))]))
  refine OGo.by (fun _ k => XS.icmpNo X5.here hx rfl (hb hby d6_7) rfl (tlt (by decide : (4 : Int32) < (16 : Int32))).2.1 k) ?_
  show OGo p e below _ (T5.setTop (mkF m 10 #[.val (.ref a0), .val (.int (-1 : Int32)), .val (.int (4 : Int32)), .val (.int (16 : Int32))] []))
  refine OGo.by (fun _ k => XS.aloadN X5.here hx rfl (hb hby d6_10) rfl rfl k) ?_
  show OGo p e below _ (T5.setTop (mkF m 11 #[.val (.ref a0), .val (.int (-1 : Int32)), .val (.int (4 : Int32)), .val (.int (16 : Int32))] [(.ref a0)]))
  refine OGo.by (fun _ k => XS.iloadN X5.here hx rfl (hb hby d6_11) rfl k) ?_
  show OGo p e below _ (T5.setTop (mkF m 12 #[.val (.ref a0), .val (.int (-1 : Int32)), .val (.int (4 : Int32)), .val (.int (16 : Int32))] [(.int (4 : Int32)), (.ref a0)]))
  refine OGo.by (fun _ k => XS.iloadN X5.here hx rfl (hb hby d6_12) rfl k) ?_
  show OGo p e below _ (T5.setTop (mkF m 13 #[.val (.ref a0), .val (.int (-1 : Int32)), .val (.int (4 : Int32)), .val (.int (16 : Int32))] [(.int (-1 : Int32)), (.int (4 : Int32)), (.ref a0)]))
  obtain ⟨cl6, Ar6, q6, S6, M6, Hs6, G6⟩ := id V5
  obtain ⟨T6, h6, X6, e6, W6, st6⟩ := stI X5 hx hZ e5 Ar6 (j := (4 : Int32)) (inb_of S6 ⟨(by decide), (by decide)⟩) (g := (mkF m 13 #[.val (.ref a0), .val (.int (-1 : Int32)), .val (.int (4 : Int32)), .val (.int (16 : Int32))] [(.int (-1 : Int32)), (.int (4 : Int32)), (.ref a0)])) rfl rfl (hb hby d6_13)
  refine OGo.by st6 ?_
  have N6 := Fr.snoc X6 N5 g_a0
  have K6 : Keep h0 h6 [a0] := (K5).wr W6 (Or.inl (List.mem_of_getElem? (i := 0) rfl))
  have V6 : Arv Z h6 a0 ka .int (16 : Int32) [(.int (-1 : Int32)), (.int (-1 : Int32)), (.int (-1 : Int32)), (.int (-1 : Int32)), (.int (-1 : Int32)), (.int (0 : Int32)), (.int (0 : Int32)), (.int (0 : Int32)), (.int (0 : Int32)), (.int (0 : Int32)), (.int (0 : Int32)), (.int (0 : Int32)), (.int (0 : Int32)), (.int (0 : Int32)), (.int (0 : Int32)), (.int (0 : Int32))] (.int (0 : Int32)) := Arv.set Ar6 q6 S6 M6 Hs6 G6 rfl W6 4 rfl (Nat.le_of_ble_eq_true rfl)
  show OGo p e below _ (T6.setTop (mkF m 14 #[.val (.ref a0), .val (.int (-1 : Int32)), .val (.int (4 : Int32)), .val (.int (16 : Int32))] []))
  refine OGo.by (fun _ k => XS.iinc X6.here hx rfl (hb hby d6_14) rfl (l' := #[.val (.ref a0), .val (.int (-1 : Int32)), .val (.int (5 : Int32)), .val (.int (16 : Int32))]) rfl k) ?_
  show OGo p e below _ (T6.setTop (mkF m 17 #[.val (.ref a0), .val (.int (-1 : Int32)), .val (.int (5 : Int32)), .val (.int (16 : Int32))] []))
  refine OGo.by (fun _ k => XS.goto X6.here hx rfl (pc0 := 17) (pc' := 5) rfl (hb hby d6_17) (by decide) (by decide) k) ?_
  show OGo p e below _ (T6.setTop (mkF m 5 #[.val (.ref a0), .val (.int (-1 : Int32)), .val (.int (5 : Int32)), .val (.int (16 : Int32))] []))
  refine OGo.by (fun _ k => XS.iloadN X6.here hx rfl (hb hby d6_5) rfl k) ?_
  show OGo p e below _ (T6.setTop (mkF m 6 #[.val (.ref a0), .val (.int (-1 : Int32)), .val (.int (5 : Int32)), .val (.int (16 : Int32))] [(.int (5 : Int32))]))
  refine OGo.by (fun _ k => XS.iloadN X6.here hx rfl (hb hby d6_6) rfl k) ?_
  show OGo p e below _ (T6.setTop (mkF m 7 #[.val (.ref a0), .val (.int (-1 : Int32)), .val (.int (5 : Int32)), .val (.int (16 : Int32))] [(.int (16 : Int32)), (.int (5 : Int32))]))
  refine OGo.by (fun _ k => XS.icmpNo X6.here hx rfl (hb hby d6_7) rfl (tlt (by decide : (5 : Int32) < (16 : Int32))).2.1 k) ?_
  show OGo p e below _ (T6.setTop (mkF m 10 #[.val (.ref a0), .val (.int (-1 : Int32)), .val (.int (5 : Int32)), .val (.int (16 : Int32))] []))
  refine OGo.by (fun _ k => XS.aloadN X6.here hx rfl (hb hby d6_10) rfl rfl k) ?_
  show OGo p e below _ (T6.setTop (mkF m 11 #[.val (.ref a0), .val (.int (-1 : Int32)), .val (.int (5 : Int32)), .val (.int (16 : Int32))] [(.ref a0)]))
  refine OGo.by (fun _ k => XS.iloadN X6.here hx rfl (hb hby d6_11) rfl k) ?_
  show OGo p e below _ (T6.setTop (mkF m 12 #[.val (.ref a0), .val (.int (-1 : Int32)), .val (.int (5 : Int32)), .val (.int (16 : Int32))] [(.int (5 : Int32)), (.ref a0)]))
  refine OGo.by (fun _ k => XS.iloadN X6.here hx rfl (hb hby d6_12) rfl k) ?_
  show OGo p e below _ (T6.setTop (mkF m 13 #[.val (.ref a0), .val (.int (-1 : Int32)), .val (.int (5 : Int32)), .val (.int (16 : Int32))] [(.int (-1 : Int32)), (.int (5 : Int32)), (.ref a0)]))
  obtain ⟨cl7, Ar7, q7, S7, M7, Hs7, G7⟩ := id V6
  obtain ⟨T7, h7, X7, e7, W7, st7⟩ := stI X6 hx hZ e6 Ar7 (j := (5 : Int32)) (inb_of S7 ⟨(by decide), (by decide)⟩) (g := (mkF m 13 #[.val (.ref a0), .val (.int (-1 : Int32)), .val (.int (5 : Int32)), .val (.int (16 : Int32))] [(.int (-1 : Int32)), (.int (5 : Int32)), (.ref a0)])) rfl rfl (hb hby d6_13)
  refine OGo.by st7 ?_
  have N7 := Fr.snoc X7 N6 g_a0
  have K7 : Keep h0 h7 [a0] := (K6).wr W7 (Or.inl (List.mem_of_getElem? (i := 0) rfl))
  have V7 : Arv Z h7 a0 ka .int (16 : Int32) [(.int (-1 : Int32)), (.int (-1 : Int32)), (.int (-1 : Int32)), (.int (-1 : Int32)), (.int (-1 : Int32)), (.int (-1 : Int32)), (.int (0 : Int32)), (.int (0 : Int32)), (.int (0 : Int32)), (.int (0 : Int32)), (.int (0 : Int32)), (.int (0 : Int32)), (.int (0 : Int32)), (.int (0 : Int32)), (.int (0 : Int32)), (.int (0 : Int32))] (.int (0 : Int32)) := Arv.set Ar7 q7 S7 M7 Hs7 G7 rfl W7 5 rfl (Nat.le_of_ble_eq_true rfl)
  show OGo p e below _ (T7.setTop (mkF m 14 #[.val (.ref a0), .val (.int (-1 : Int32)), .val (.int (5 : Int32)), .val (.int (16 : Int32))] []))
  refine OGo.by (fun _ k => XS.iinc X7.here hx rfl (hb hby d6_14) rfl (l' := #[.val (.ref a0), .val (.int (-1 : Int32)), .val (.int (6 : Int32)), .val (.int (16 : Int32))]) rfl k) ?_
  show OGo p e below _ (T7.setTop (mkF m 17 #[.val (.ref a0), .val (.int (-1 : Int32)), .val (.int (6 : Int32)), .val (.int (16 : Int32))] []))
  refine OGo.by (fun _ k => XS.goto X7.here hx rfl (pc0 := 17) (pc' := 5) rfl (hb hby d6_17) (by decide) (by decide) k) ?_
  show OGo p e below _ (T7.setTop (mkF m 5 #[.val (.ref a0), .val (.int (-1 : Int32)), .val (.int (6 : Int32)), .val (.int (16 : Int32))] []))
  refine OGo.by (fun _ k => XS.iloadN X7.here hx rfl (hb hby d6_5) rfl k) ?_
  show OGo p e below _ (T7.setTop (mkF m 6 #[.val (.ref a0), .val (.int (-1 : Int32)), .val (.int (6 : Int32)), .val (.int (16 : Int32))] [(.int (6 : Int32))]))
  refine OGo.by (fun _ k => XS.iloadN X7.here hx rfl (hb hby d6_6) rfl k) ?_
  show OGo p e below _ (T7.setTop (mkF m 7 #[.val (.ref a0), .val (.int (-1 : Int32)), .val (.int (6 : Int32)), .val (.int (16 : Int32))] [(.int (16 : Int32)), (.int (6 : Int32))]))
  refine OGo.by (fun _ k => XS.icmpNo X7.here hx rfl (hb hby d6_7) rfl (tlt (by decide : (6 : Int32) < (16 : Int32))).2.1 k) ?_
  show OGo p e below _ (T7.setTop (mkF m 10 #[.val (.ref a0), .val (.int (-1 : Int32)), .val (.int (6 : Int32)), .val (.int (16 : Int32))] []))
  refine OGo.by (fun _ k => XS.aloadN X7.here hx rfl (hb hby d6_10) rfl rfl k) ?_
  show OGo p e below _ (T7.setTop (mkF m 11 #[.val (.ref a0), .val (.int (-1 : Int32)), .val (.int (6 : Int32)), .val (.int (16 : Int32))] [(.ref a0)]))
  refine OGo.by (fun _ k => XS.iloadN X7.here hx rfl (hb hby d6_11) rfl k) ?_
  show OGo p e below _ (T7.setTop (mkF m 12 #[.val (.ref a0), .val (.int (-1 : Int32)), .val (.int (6 : Int32)), .val (.int (16 : Int32))] [(.int (6 : Int32)), (.ref a0)]))
  refine OGo.by (fun _ k => XS.iloadN X7.here hx rfl (hb hby d6_12) rfl k) ?_
  show OGo p e below _ (T7.setTop (mkF m 13 #[.val (.ref a0), .val (.int (-1 : Int32)), .val (.int (6 : Int32)), .val (.int (16 : Int32))] [(.int (-1 : Int32)), (.int (6 : Int32)), (.ref a0)]))
  obtain ⟨cl8, Ar8, q8, S8, M8, Hs8, G8⟩ := id V7
  obtain ⟨T8, h8, X8, e8, W8, st8⟩ := stI X7 hx hZ e7 Ar8 (j := (6 : Int32)) (inb_of S8 ⟨(by decide), (by decide)⟩) (g := (mkF m 13 #[.val (.ref a0), .val (.int (-1 : Int32)), .val (.int (6 : Int32)), .val (.int (16 : Int32))] [(.int (-1 : Int32)), (.int (6 : Int32)), (.ref a0)])) rfl rfl (hb hby d6_13)
  refine OGo.by st8 ?_
  have N8 := Fr.snoc X8 N7 g_a0
  have K8 : Keep h0 h8 [a0] := (K7).wr W8 (Or.inl (List.mem_of_getElem? (i := 0) rfl))
  have V8 : Arv Z h8 a0 ka .int (16 : Int32) [(.int (-1 : Int32)), (.int (-1 : Int32)), (.int (-1 : Int32)), (.int (-1 : Int32)), (.int (-1 : Int32)), (.int (-1 : Int32)), (.int (-1 : Int32)), (.int (0 : Int32)), (.int (0 : Int32)), (.int (0 : Int32)), (.int (0 : Int32)), (.int (0 : Int32)), (.int (0 : Int32)), (.int (0 : Int32)), (.int (0 : Int32)), (.int (0 : Int32))] (.int (0 : Int32)) := Arv.set Ar8 q8 S8 M8 Hs8 G8 rfl W8 6 rfl (Nat.le_of_ble_eq_true rfl)
  show OGo p e below _ (T8.setTop (mkF m 14 #[.val (.ref a0), .val (.int (-1 : Int32)), .val (.int (6 : Int32)), .val (.int (16 : Int32))] []))
  refine OGo.by (fun _ k => XS.iinc X8.here hx rfl (hb hby d6_14) rfl (l' := #[.val (.ref a0), .val (.int (-1 : Int32)), .val (.int (7 : Int32)), .val (.int (16 : Int32))]) rfl k) ?_
  show OGo p e below _ (T8.setTop (mkF m 17 #[.val (.ref a0), .val (.int (-1 : Int32)), .val (.int (7 : Int32)), .val (.int (16 : Int32))] []))
  refine OGo.by (fun _ k => XS.goto X8.here hx rfl (pc0 := 17) (pc' := 5) rfl (hb hby d6_17) (by decide) (by decide) k) ?_
  show OGo p e below _ (T8.setTop (mkF m 5 #[.val (.ref a0), .val (.int (-1 : Int32)), .val (.int (7 : Int32)), .val (.int (16 : Int32))] []))
  refine OGo.by (fun _ k => XS.iloadN X8.here hx rfl (hb hby d6_5) rfl k) ?_
  show OGo p e below _ (T8.setTop (mkF m 6 #[.val (.ref a0), .val (.int (-1 : Int32)), .val (.int (7 : Int32)), .val (.int (16 : Int32))] [(.int (7 : Int32))]))
  refine OGo.by (fun _ k => XS.iloadN X8.here hx rfl (hb hby d6_6) rfl k) ?_
  show OGo p e below _ (T8.setTop (mkF m 7 #[.val (.ref a0), .val (.int (-1 : Int32)), .val (.int (7 : Int32)), .val (.int (16 : Int32))] [(.int (16 : Int32)), (.int (7 : Int32))]))
  refine OGo.by (fun _ k => XS.icmpNo X8.here hx rfl (hb hby d6_7) rfl (tlt (by decide : (7 : Int32) < (16 : Int32))).2.1 k) ?_
  show OGo p e below _ (T8.setTop (mkF m 10 #[.val (.ref a0), .val (.int (-1 : Int32)), .val (.int (7 : Int32)), .val (.int (16 : Int32))] []))
  refine OGo.by (fun _ k => XS.aloadN X8.here hx rfl (hb hby d6_10) rfl rfl k) ?_
  show OGo p e below _ (T8.setTop (mkF m 11 #[.val (.ref a0), .val (.int (-1 : Int32)), .val (.int (7 : Int32)), .val (.int (16 : Int32))] [(.ref a0)]))
  refine OGo.by (fun _ k => XS.iloadN X8.here hx rfl (hb hby d6_11) rfl k) ?_
  show OGo p e below _ (T8.setTop (mkF m 12 #[.val (.ref a0), .val (.int (-1 : Int32)), .val (.int (7 : Int32)), .val (.int (16 : Int32))] [(.int (7 : Int32)), (.ref a0)]))
  refine OGo.by (fun _ k => XS.iloadN X8.here hx rfl (hb hby d6_12) rfl k) ?_
  show OGo p e below _ (T8.setTop (mkF m 13 #[.val (.ref a0), .val (.int (-1 : Int32)), .val (.int (7 : Int32)), .val (.int (16 : Int32))] [(.int (-1 : Int32)), (.int (7 : Int32)), (.ref a0)]))
  obtain ⟨cl9, Ar9, q9, S9, M9, Hs9, G9⟩ := id V8
  obtain ⟨T9, h9, X9, e9, W9, st9⟩ := stI X8 hx hZ e8 Ar9 (j := (7 : Int32)) (inb_of S9 ⟨(by decide), (by decide)⟩) (g := (mkF m 13 #[.val (.ref a0), .val (.int (-1 : Int32)), .val (.int (7 : Int32)), .val (.int (16 : Int32))] [(.int (-1 : Int32)), (.int (7 : Int32)), (.ref a0)])) rfl rfl (hb hby d6_13)
  refine OGo.by st9 ?_
  have N9 := Fr.snoc X9 N8 g_a0
  have K9 : Keep h0 h9 [a0] := (K8).wr W9 (Or.inl (List.mem_of_getElem? (i := 0) rfl))
  have V9 : Arv Z h9 a0 ka .int (16 : Int32) [(.int (-1 : Int32)), (.int (-1 : Int32)), (.int (-1 : Int32)), (.int (-1 : Int32)), (.int (-1 : Int32)), (.int (-1 : Int32)), (.int (-1 : Int32)), (.int (-1 : Int32)), (.int (0 : Int32)), (.int (0 : Int32)), (.int (0 : Int32)), (.int (0 : Int32)), (.int (0 : Int32)), (.int (0 : Int32)), (.int (0 : Int32)), (.int (0 : Int32))] (.int (0 : Int32)) := Arv.set Ar9 q9 S9 M9 Hs9 G9 rfl W9 7 rfl (Nat.le_of_ble_eq_true rfl)
  show OGo p e below _ (T9.setTop (mkF m 14 #[.val (.ref a0), .val (.int (-1 : Int32)), .val (.int (7 : Int32)), .val (.int (16 : Int32))] []))
  refine OGo.by (fun _ k => XS.iinc X9.here hx rfl (hb hby d6_14) rfl (l' := #[.val (.ref a0), .val (.int (-1 : Int32)), .val (.int (8 : Int32)), .val (.int (16 : Int32))]) rfl k) ?_
  show OGo p e below _ (T9.setTop (mkF m 17 #[.val (.ref a0), .val (.int (-1 : Int32)), .val (.int (8 : Int32)), .val (.int (16 : Int32))] []))
  refine OGo.by (fun _ k => XS.goto X9.here hx rfl (pc0 := 17) (pc' := 5) rfl (hb hby d6_17) (by decide) (by decide) k) ?_
  show OGo p e below _ (T9.setTop (mkF m 5 #[.val (.ref a0), .val (.int (-1 : Int32)), .val (.int (8 : Int32)), .val (.int (16 : Int32))] []))
  refine OGo.by (fun _ k => XS.iloadN X9.here hx rfl (hb hby d6_5) rfl k) ?_
  show OGo p e below _ (T9.setTop (mkF m 6 #[.val (.ref a0), .val (.int (-1 : Int32)), .val (.int (8 : Int32)), .val (.int (16 : Int32))] [(.int (8 : Int32))]))
  refine OGo.by (fun _ k => XS.iloadN X9.here hx rfl (hb hby d6_6) rfl k) ?_
  show OGo p e below _ (T9.setTop (mkF m 7 #[.val (.ref a0), .val (.int (-1 : Int32)), .val (.int (8 : Int32)), .val (.int (16 : Int32))] [(.int (16 : Int32)), (.int (8 : Int32))]))
  refine OGo.by (fun _ k => XS.icmpNo X9.here hx rfl (hb hby d6_7) rfl (tlt (by decide : (8 : Int32) < (16 : Int32))).2.1 k) ?_
  show OGo p e below _ (T9.setTop (mkF m 10 #[.val (.ref a0), .val (.int (-1 : Int32)), .val (.int (8 : Int32)), .val (.int (16 : Int32))] []))
  refine OGo.by (fun _ k => XS.aloadN X9.here hx rfl (hb hby d6_10) rfl rfl k) ?_
  show OGo p e below _ (T9.setTop (mkF m 11 #[.val (.ref a0), .val (.int (-1 : Int32)), .val (.int (8 : Int32)), .val (.int (16 : Int32))] [(.ref a0)]))
  refine OGo.by (fun _ k => XS.iloadN X9.here hx rfl (hb hby d6_11) rfl k) ?_
  show OGo p e below _ (T9.setTop (mkF m 12 #[.val (.ref a0), .val (.int (-1 : Int32)), .val (.int (8 : Int32)), .val (.int (16 : Int32))] [(.int (8 : Int32)), (.ref a0)]))
  refine OGo.by (fun _ k => XS.iloadN X9.here hx rfl (hb hby d6_12) rfl k) ?_
  show OGo p e below _ (T9.setTop (mkF m 13 #[.val (.ref a0), .val (.int (-1 : Int32)), .val (.int (8 : Int32)), .val (.int (16 : Int32))] [(.int (-1 : Int32)), (.int (8 : Int32)), (.ref a0)]))
  obtain ⟨cl10, Ar10, q10, S10, M10, Hs10, G10⟩ := id V9
  obtain ⟨T10, h10, X10, e10, W10, st10⟩ := stI X9 hx hZ e9 Ar10 (j := (8 : Int32)) (inb_of S10 ⟨(by decide), (by decide)⟩) (g := (mkF m 13 #[.val (.ref a0), .val (.int (-1 : Int32)), .val (.int (8 : Int32)), .val (.int (16 : Int32))] [(.int (-1 : Int32)), (.int (8 : Int32)), (.ref a0)])) rfl rfl (hb hby d6_13)
  refine OGo.by st10 ?_
  have N10 := Fr.snoc X10 N9 g_a0
  have K10 : Keep h0 h10 [a0] := (K9).wr W10 (Or.inl (List.mem_of_getElem? (i := 0) rfl))
  have V10 : Arv Z h10 a0 ka .int (16 : Int32) [(.int (-1 : Int32)), (.int (-1 : Int32)), (.int (-1 : Int32)), (.int (-1 : Int32)), (.int (-1 : Int32)), (.int (-1 : Int32)), (.int (-1 : Int32)), (.int (-1 : Int32)), (.int (-1 : Int32)), (.int (0 : Int32)), (.int (0 : Int32)), (.int (0 : Int32)), (.int (0 : Int32)), (.int (0 : Int32)), (.int (0 : Int32)), (.int (0 : Int32))] (.int (0 : Int32)) := Arv.set Ar10 q10 S10 M10 Hs10 G10 rfl W10 8 rfl (Nat.le_of_ble_eq_true rfl)
  show OGo p e below _ (T10.setTop (mkF m 14 #[.val (.ref a0), .val (.int (-1 : Int32)), .val (.int (8 : Int32)), .val (.int (16 : Int32))] []))
  refine OGo.by (fun _ k => XS.iinc X10.here hx rfl (hb hby d6_14) rfl (l' := #[.val (.ref a0), .val (.int (-1 : Int32)), .val (.int (9 : Int32)), .val (.int (16 : Int32))]) rfl k) ?_
  show OGo p e below _ (T10.setTop (mkF m 17 #[.val (.ref a0), .val (.int (-1 : Int32)), .val (.int (9 : Int32)), .val (.int (16 : Int32))] []))
  refine OGo.by (fun _ k => XS.goto X10.here hx rfl (pc0 := 17) (pc' := 5) rfl (hb hby d6_17) (by decide) (by decide) k) ?_
  show OGo p e below _ (T10.setTop (mkF m 5 #[.val (.ref a0), .val (.int (-1 : Int32)), .val (.int (9 : Int32)), .val (.int (16 : Int32))] []))
  refine OGo.by (fun _ k => XS.iloadN X10.here hx rfl (hb hby d6_5) rfl k) ?_
  show OGo p e below _ (T10.setTop (mkF m 6 #[.val (.ref a0), .val (.int (-1 : Int32)), .val (.int (9 : Int32)), .val (.int (16 : Int32))] [(.int (9 : Int32))]))
  refine OGo.by (fun _ k => XS.iloadN X10.here hx rfl (hb hby d6_6) rfl k) ?_
  show OGo p e below _ (T10.setTop (mkF m 7 #[.val (.ref a0), .val (.int (-1 : Int32)), .val (.int (9 : Int32)), .val (.int (16 : Int32))] [(.int (16 : Int32)), (.int (9 : Int32))]))
  refine OGo.by (fun _ k => XS.icmpNo X10.here hx rfl (hb hby d6_7) rfl (tlt (by decide : (9 : Int32) < (16 : Int32))).2.1 k) ?_
  show OGo p e below _ (T10.setTop (mkF m 10 #[.val (.ref a0), .val (.int (-1 : Int32)), .val (.int (9 : Int32)), .val (.int (16 : Int32))] []))
  refine OGo.by (fun _ k => XS.aloadN X10.here hx rfl (hb hby d6_10) rfl rfl k) ?_
  show OGo p e below _ (T10.setTop (mkF m 11 #[.val (.ref a0), .val (.int (-1 : Int32)), .val (.int (9 : Int32)), .val (.int (16 : Int32))] [(.ref a0)]))
  refine OGo.by (fun _ k => XS.iloadN X10.here hx rfl (hb hby d6_11) rfl k) ?_
  show OGo p e below _ (T10.setTop (mkF m 12 #[.val (.ref a0), .val (.int (-1 : Int32)), .val (.int (9 : Int32)), .val (.int (16 : Int32))] [(.int (9 : Int32)), (.ref a0)]))
  refine OGo.by (fun _ k => XS.iloadN X10.here hx rfl (hb hby d6_12) rfl k) ?_
  show OGo p e below _ (T10.setTop (mkF m 13 #[.val (.ref a0), .val (.int (-1 : Int32)), .val (.int (9 : Int32)), .val (.int (16 : Int32))] [(.int (-1 : Int32)), (.int (9 : Int32)), (.ref a0)]))
  obtain ⟨cl11, Ar11, q11, S11, M11, Hs11, G11⟩ := id V10
  obtain ⟨T11, h11, X11, e11, W11, st11⟩ := stI X10 hx hZ e10 Ar11 (j := (9 : Int32)) (inb_of S11 ⟨(by decide), (by decide)⟩) (g := (mkF m 13 #[.val (.ref a0), .val (.int (-1 : Int32)), .val (.int (9 : Int32)), .val (.int (16 : Int32))] [(.int (-1 : Int32)), (.int (9 : Int32)), (.ref a0)])) rfl rfl (hb hby d6_13)
  refine OGo.by st11 ?_
  have N11 := Fr.snoc X11 N10 g_a0
  have K11 : Keep h0 h11 [a0] := (K10).wr W11 (Or.inl (List.mem_of_getElem? (i := 0) rfl))
  have V11 : Arv Z h11 a0 ka .int (16 : Int32) [(.int (-1 : Int32)), (.int (-1 : Int32)), (.int (-1 : Int32)), (.int (-1 : Int32)), (.int (-1 : Int32)), (.int (-1 : Int32)), (.int (-1 : Int32)), (.int (-1 : Int32)), (.int (-1 : Int32)), (.int (-1 : Int32)), (.int (0 : Int32)), (.int (0 : Int32)), (.int (0 : Int32)), (.int (0 : Int32)), (.int (0 : Int32)), (.int (0 : Int32))] (.int (0 : Int32)) := Arv.set Ar11 q11 S11 M11 Hs11 G11 rfl W11 9 rfl (Nat.le_of_ble_eq_true rfl)
  show OGo p e below _ (T11.setTop (mkF m 14 #[.val (.ref a0), .val (.int (-1 : Int32)), .val (.int (9 : Int32)), .val (.int (16 : Int32))] []))
  refine OGo.by (fun _ k => XS.iinc X11.here hx rfl (hb hby d6_14) rfl (l' := #[.val (.ref a0), .val (.int (-1 : Int32)), .val (.int (10 : Int32)), .val (.int (16 : Int32))]) rfl k) ?_
  show OGo p e below _ (T11.setTop (mkF m 17 #[.val (.ref a0), .val (.int (-1 : Int32)), .val (.int (10 : Int32)), .val (.int (16 : Int32))] []))
  refine OGo.by (fun _ k => XS.goto X11.here hx rfl (pc0 := 17) (pc' := 5) rfl (hb hby d6_17) (by decide) (by decide) k) ?_
  show OGo p e below _ (T11.setTop (mkF m 5 #[.val (.ref a0), .val (.int (-1 : Int32)), .val (.int (10 : Int32)), .val (.int (16 : Int32))] []))
  refine OGo.by (fun _ k => XS.iloadN X11.here hx rfl (hb hby d6_5) rfl k) ?_
  show OGo p e below _ (T11.setTop (mkF m 6 #[.val (.ref a0), .val (.int (-1 : Int32)), .val (.int (10 : Int32)), .val (.int (16 : Int32))] [(.int (10 : Int32))]))
  refine OGo.by (fun _ k => XS.iloadN X11.here hx rfl (hb hby d6_6) rfl k) ?_
  show OGo p e below _ (T11.setTop (mkF m 7 #[.val (.ref a0), .val (.int (-1 : Int32)), .val (.int (10 : Int32)), .val (.int (16 : Int32))] [(.int (16 : Int32)), (.int (10 : Int32))]))
  refine OGo.by (fun _ k => XS.icmpNo X11.here hx rfl (hb hby d6_7) rfl (tlt (by decide : (10 : Int32) < (16 : Int32))).2.1 k) ?_
  show OGo p e below _ (T11.setTop (mkF m 10 #[.val (.ref a0), .val (.int (-1 : Int32)), .val (.int (10 : Int32)), .val (.int (16 : Int32))] []))
  refine OGo.by (fun _ k => XS.aloadN X11.here hx rfl (hb hby d6_10) rfl rfl k) ?_
  show OGo p e below _ (T11.setTop (mkF m 11 #[.val (.ref a0), .val (.int (-1 : Int32)), .val (.int (10 : Int32)), .val (.int (16 : Int32))] [(.ref a0)]))
  refine OGo.by (fun _ k => XS.iloadN X11.here hx rfl (hb hby d6_11) rfl k) ?_
  show OGo p e below _ (T11.setTop (mkF m 12 #[.val (.ref a0), .val (.int (-1 : Int32)), .val (.int (10 : Int32)), .val (.int (16 : Int32))] [(.int (10 : Int32)), (.ref a0)]))
  refine OGo.by (fun _ k => XS.iloadN X11.here hx rfl (hb hby d6_12) rfl k) ?_
  show OGo p e below _ (T11.setTop (mkF m 13 #[.val (.ref a0), .val (.int (-1 : Int32)), .val (.int (10 : Int32)), .val (.int (16 : Int32))] [(.int (-1 : Int32)), (.int (10 : Int32)), (.ref a0)]))
  obtain ⟨cl12, Ar12, q12, S12, M12, Hs12, G12⟩ := id V11
  obtain ⟨T12, h12, X12, e12, W12, st12⟩ := stI X11 hx hZ e11 Ar12 (j := (10 : Int32)) (inb_of S12 ⟨(by decide), (by decide)⟩) (g := (mkF m 13 #[.val (.ref a0), .val (.int (-1 : Int32)), .val (.int (10 : Int32)), .val (.int (16 : Int32))] [(.int (-1 : Int32)), (.int (10 : Int32)), (.ref a0)])) rfl rfl (hb hby d6_13)
  refine OGo.by st12 ?_
  have N12 := Fr.snoc X12 N11 g_a0
  have K12 : Keep h0 h12 [a0] := (K11).wr W12 (Or.inl (List.mem_of_getElem? (i := 0) rfl))
  have V12 : Arv Z h12 a0 ka .int (16 : Int32) [(.int (-1 : Int32)), (.int (-1 : Int32)), (.int (-1 : Int32)), (.int (-1 : Int32)), (.int (-1 : Int32)), (.int (-1 : Int32)), (.int (-1 : Int32)), (.int (-1 : Int32)), (.int (-1 : Int32)), (.int (-1 : Int32)), (.int (-1 : Int32)), (.int (0 : Int32)), (.int (0 : Int32)), (.int (0 : Int32)), (.int (0 : Int32)), (.int (0 : Int32))] (.int (0 : Int32)) := Arv.set Ar12 q12 S12 M12 Hs12 G12 rfl W12 10 rfl (Nat.le_of_ble_eq_true rfl)
  show OGo p e below _ (T12.setTop (mkF m 14 #[.val (.ref a0), .val (.int (-1 : Int32)), .val (.int (10 : Int32)), .val (.int (16 : Int32))] []))
  refine OGo.by (fun _ k => XS.iinc X12.here hx rfl (hb hby d6_14) rfl (l' := #[.val (.ref a0), .val (.int (-1 : Int32)), .val (.int (11 : Int32)), .val (.int (16 : Int32))]) rfl k) ?_
  show OGo p e below _ (T12.setTop (mkF m 17 #[.val (.ref a0), .val (.int (-1 : Int32)), .val (.int (11 : Int32)), .val (.int (16 : Int32))] []))
  refine OGo.by (fun _ k => XS.goto X12.here hx rfl (pc0 := 17) (pc' := 5) rfl (hb hby d6_17) (by decide) (by decide) k) ?_
  show OGo p e below _ (T12.setTop (mkF m 5 #[.val (.ref a0), .val (.int (-1 : Int32)), .val (.int (11 : Int32)), .val (.int (16 : Int32))] []))
  refine OGo.by (fun _ k => XS.iloadN X12.here hx rfl (hb hby d6_5) rfl k) ?_
  show OGo p e below _ (T12.setTop (mkF m 6 #[.val (.ref a0), .val (.int (-1 : Int32)), .val (.int (11 : Int32)), .val (.int (16 : Int32))] [(.int (11 : Int32))]))
  refine OGo.by (fun _ k => XS.iloadN X12.here hx rfl (hb hby d6_6) rfl k) ?_
  show OGo p e below _ (T12.setTop (mkF m 7 #[.val (.ref a0), .val (.int (-1 : Int32)), .val (.int (11 : Int32)), .val (.int (16 : Int32))] [(.int (16 : Int32)), (.int (11 : Int32))]))
  refine OGo.by (fun _ k => XS.icmpNo X12.here hx rfl (hb hby d6_7) rfl (tlt (by decide : (11 : Int32) < (16 : Int32))).2.1 k) ?_
  show OGo p e below _ (T12.setTop (mkF m 10 #[.val (.ref a0), .val (.int (-1 : Int32)), .val (.int (11 : Int32)), .val (.int (16 : Int32))] []))
  refine OGo.by (fun _ k => XS.aloadN X12.here hx rfl (hb hby d6_10) rfl rfl k) ?_
  show OGo p e below _ (T12.setTop (mkF m 11 #[.val (.ref a0), .val (.int (-1 : Int32)), .val (.int (11 : Int32)), .val (.int (16 : Int32))] [(.ref a0)]))
  refine OGo.by (fun _ k => XS.iloadN X12.here hx rfl (hb hby d6_11) rfl k) ?_
  show OGo p e below _ (T12.setTop (mkF m 12 #[.val (.ref a0), .val (.int (-1 : Int32)), .val (.int (11 : Int32)), .val (.int (16 : Int32))] [(.int (11 : Int32)), (.ref a0)]))
  refine OGo.by (fun _ k => XS.iloadN X12.here hx rfl (hb hby d6_12) rfl k) ?_
  show OGo p e below _ (T12.setTop (mkF m 13 #[.val (.ref a0), .val (.int (-1 : Int32)), .val (.int (11 : Int32)), .val (.int (16 : Int32))] [(.int (-1 : Int32)), (.int (11 : Int32)), (.ref a0)]))
  obtain ⟨cl13, Ar13, q13, S13, M13, Hs13, G13⟩ := id V12
  obtain ⟨T13, h13, X13, e13, W13, st13⟩ := stI X12 hx hZ e12 Ar13 (j := (11 : Int32)) (inb_of S13 ⟨(by decide), (by decide)⟩) (g := (mkF m 13 #[.val (.ref a0), .val (.int (-1 : Int32)), .val (.int (11 : Int32)), .val (.int (16 : Int32))] [(.int (-1 : Int32)), (.int (11 : Int32)), (.ref a0)])) rfl rfl (hb hby d6_13)
  refine OGo.by st13 ?_
  have N13 := Fr.snoc X13 N12 g_a0
  have K13 : Keep h0 h13 [a0] := (K12).wr W13 (Or.inl (List.mem_of_getElem? (i := 0) rfl))
  have V13 : Arv Z h13 a0 ka .int (16 : Int32) [(.int (-1 : Int32)), (.int (-1 : Int32)), (.int (-1 : Int32)), (.int (-1 : Int32)), (.int (-1 : Int32)), (.int (-1 : Int32)), (.int (-1 : Int32)), (.int (-1 : Int32)), (.int (-1 : Int32)), (.int (-1 : Int32)), (.int (-1 : Int32)), (.int (-1 : Int32)), (.int (0 : Int32)), (.int (0 : Int32)), (.int (0 : Int32)), (.int (0 : Int32))] (.int (0 : Int32)) := Arv.set Ar13 q13 S13 M13 Hs13 G13 rfl W13 11 rfl (Nat.le_of_ble_eq_true rfl)
  show OGo p e below _ (T13.setTop (mkF m 14 #[.val (.ref a0), .val (.int (-1 : Int32)), .val (.int (11 : Int32)), .val (.int (16 : Int32))] []))
  refine OGo.by (fun _ k => XS.iinc X13.here hx rfl (hb hby d6_14) rfl (l' := #[.val (.ref a0), .val (.int (-1 : Int32)), .val (.int (12 : Int32)), .val (.int (16 : Int32))]) rfl k) ?_
  show OGo p e below _ (T13.setTop (mkF m 17 #[.val (.ref a0), .val (.int (-1 : Int32)), .val (.int (12 : Int32)), .val (.int (16 : Int32))] []))
  refine OGo.by (fun _ k => XS.goto X13.here hx rfl (pc0 := 17) (pc' := 5) rfl (hb hby d6_17) (by decide) (by decide) k) ?_
  show OGo p e below _ (T13.setTop (mkF m 5 #[.val (.ref a0), .val (.int (-1 : Int32)), .val (.int (12 : Int32)), .val (.int (16 : Int32))] []))
  refine OGo.by (fun _ k => XS.iloadN X13.here hx rfl (hb hby d6_5) rfl k) ?_
  show OGo p e below _ (T13.setTop (mkF m 6 #[.val (.ref a0), .val (.int (-1 : Int32)), .val (.int (12 : Int32)), .val (.int (16 : Int32))] [(.int (12 : Int32))]))
  refine OGo.by (fun _ k => XS.iloadN X13.here hx rfl (hb hby d6_6) rfl k) ?_
  show OGo p e below _ (T13.setTop (mkF m 7 #[.val (.ref a0), .val (.int (-1 : Int32)), .val (.int (12 : Int32)), .val (.int (16 : Int32))] [(.int (16 : Int32)), (.int (12 : Int32))]))
  refine OGo.by (fun _ k => XS.icmpNo X13.here hx rfl (hb hby d6_7) rfl (tlt (by decide : (12 : Int32) < (16 : Int32))).2.1 k) ?_
  show OGo p e below _ (T13.setTop (mkF m 10 #[.val (.ref a0), .val (.int (-1 : Int32)), .val (.int (12 : Int32)), .val (.int (16 : Int32))] []))
  refine OGo.by (fun _ k => XS.aloadN X13.here hx rfl (hb hby d6_10) rfl rfl k) ?_
  show OGo p e below _ (T13.setTop (mkF m 11 #[.val (.ref a0), .val (.int (-1 : Int32)), .val (.int (12 : Int32)), .val (.int (16 : Int32))] [(.ref a0)]))
  refine OGo.by (fun _ k => XS.iloadN X13.here hx rfl (hb hby d6_11) rfl k) ?_
  show OGo p e below _ (T13.setTop (mkF m 12 #[.val (.ref a0), .val (.int (-1 : Int32)), .val (.int (12 : Int32)), .val (.int (16 : Int32))] [(.int (12 : Int32)), (.ref a0)]))
  refine OGo.by (fun _ k => XS.iloadN X13.here hx rfl (hb hby d6_12) rfl k) ?_
  show OGo p e below _ (T13.setTop (mkF m 13 #[.val (.ref a0), .val (.int (-1 : Int32)), .val (.int (12 : Int32)), .val (.int (16 : Int32))] [(.int (-1 : Int32)), (.int (12 : Int32)), (.ref a0)]))
  obtain ⟨cl14, Ar14, q14, S14, M14, Hs14, G14⟩ := id V13
  obtain ⟨T14, h14, X14, e14, W14, st14⟩ := stI X13 hx hZ e13 Ar14 (j := (12 : Int32)) (inb_of S14 ⟨(by decide), (by decide)⟩) (g := (mkF m 13 #[.val (.ref a0), .val (.int (-1 : Int32)), .val (.int (12 : Int32)), .val (.int (16 : Int32))] [(.int (-1 : Int32)), (.int (12 : Int32)), (.ref a0)])) rfl rfl (hb hby d6_13)
  refine OGo.by st14 ?_
  have N14 := Fr.snoc X14 N13 g_a0
  have K14 : Keep h0 h14 [a0] := (K13).wr W14 (Or.inl (List.mem_of_getElem? (i := 0) rfl))
  have V14 : Arv Z h14 a0 ka .int (16 : Int32) [(.int (-1 : Int32)), (.int (-1 : Int32)), (.int (-1 : Int32)), (.int (-1 : Int32)), (.int (-1 : Int32)), (.int (-1 : Int32)), (.int (-1 : Int32)), (.int (-1 : Int32)), (.int (-1 : Int32)), (.int (-1 : Int32)), (.int (-1 : Int32)), (.int (-1 : Int32)), (.int (-1 : Int32)), (.int (0 : Int32)), (.int (0 : Int32)), (.int (0 : Int32))] (.int (0 : Int32)) := Arv.set Ar14 q14 S14 M14 Hs14 G14 rfl W14 12 rfl (Nat.le_of_ble_eq_true rfl)
  show OGo p e below _ (T14.setTop (mkF m 14 #[.val (.ref a0), .val (.int (-1 : Int32)), .val (.int (12 : Int32)), .val (.int (16 : Int32))] []))
  refine OGo.by (fun _ k => XS.iinc X14.here hx rfl (hb hby d6_14) rfl (l' := #[.val (.ref a0), .val (.int (-1 : Int32)), .val (.int (13 : Int32)), .val (.int (16 : Int32))]) rfl k) ?_
  show OGo p e below _ (T14.setTop (mkF m 17 #[.val (.ref a0), .val (.int (-1 : Int32)), .val (.int (13 : Int32)), .val (.int (16 : Int32))] []))
  refine OGo.by (fun _ k => XS.goto X14.here hx rfl (pc0 := 17) (pc' := 5) rfl (hb hby d6_17) (by decide) (by decide) k) ?_
  show OGo p e below _ (T14.setTop (mkF m 5 #[.val (.ref a0), .val (.int (-1 : Int32)), .val (.int (13 : Int32)), .val (.int (16 : Int32))] []))
  refine OGo.by (fun _ k => XS.iloadN X14.here hx rfl (hb hby d6_5) rfl k) ?_
  show OGo p e below _ (T14.setTop (mkF m 6 #[.val (.ref a0), .val (.int (-1 : Int32)), .val (.int (13 : Int32)), .val (.int (16 : Int32))] [(.int (13 : Int32))]))
  refine OGo.by (fun _ k => XS.iloadN X14.here hx rfl (hb hby d6_6) rfl k) ?_
  show OGo p e below _ (T14.setTop (mkF m 7 #[.val (.ref a0), .val (.int (-1 : Int32)), .val (.int (13 : Int32)), .val (.int (16 : Int32))] [(.int (16 : Int32)), (.int (13 : Int32))]))
  refine OGo.by (fun _ k => XS.icmpNo X14.here hx rfl (hb hby d6_7) rfl (tlt (by decide : (13 : Int32) < (16 : Int32))).2.1 k) ?_
  show OGo p e below _ (T14.setTop (mkF m 10 #[.val (.ref a0), .val (.int (-1 : Int32)), .val (.int (13 : Int32)), .val (.int (16 : Int32))] []))
  refine OGo.by (fun _ k => XS.aloadN X14.here hx rfl (hb hby d6_10) rfl rfl k) ?_
  show OGo p e below _ (T14.setTop (mkF m 11 #[.val (.ref a0), .val (.int (-1 : Int32)), .val (.int (13 : Int32)), .val (.int (16 : Int32))] [(.ref a0)]))
  refine OGo.by (fun _ k => XS.iloadN X14.here hx rfl (hb hby d6_11) rfl k) ?_
  show OGo p e below _ (T14.setTop (mkF m 12 #[.val (.ref a0), .val (.int (-1 : Int32)), .val (.int (13 : Int32)), .val (.int (16 : Int32))] [(.int (13 : Int32)), (.ref a0)]))
  refine OGo.by (fun _ k => XS.iloadN X14.here hx rfl (hb hby d6_12) rfl k) ?_
  show OGo p e below _ (T14.setTop (mkF m 13 #[.val (.ref a0), .val (.int (-1 : Int32)), .val (.int (13 : Int32)), .val (.int (16 : Int32))] [(.int (-1 : Int32)), (.int (13 : Int32)), (.ref a0)]))
  obtain ⟨cl15, Ar15, q15, S15, M15, Hs15, G15⟩ := id V14
  obtain ⟨T15, h15, X15, e15, W15, st15⟩ := stI X14 hx hZ e14 Ar15 (j := (13 : Int32)) (inb_of S15 ⟨(by decide), (by decide)⟩) (g := (mkF m 13 #[.val (.ref a0), .val (.int (-1 : Int32)), .val (.int (13 : Int32)), .val (.int (16 : Int32))] [(.int (-1 : Int32)), (.int (13 : Int32)), (.ref a0)])) rfl rfl (hb hby d6_13)
  refine OGo.by st15 ?_
  have N15 := Fr.snoc X15 N14 g_a0
  have K15 : Keep h0 h15 [a0] := (K14).wr W15 (Or.inl (List.mem_of_getElem? (i := 0) rfl))
  have V15 : Arv Z h15 a0 ka .int (16 : Int32) [(.int (-1 : Int32)), (.int (-1 : Int32)), (.int (-1 : Int32)), (.int (-1 : Int32)), (.int (-1 : Int32)), (.int (-1 : Int32)), (.int (-1 : Int32)), (.int (-1 : Int32)), (.int (-1 : Int32)), (.int (-1 : Int32)), (.int (-1 : Int32)), (.int (-1 : Int32)), (.int (-1 : Int32)), (.int (-1 : Int32)), (.int (0 : Int32)), (.int (0 : Int32))] (.int (0 : Int32)) := Arv.set Ar15 q15 S15 M15 Hs15 G15 rfl W15 13 rfl (Nat.le_of_ble_eq_true rfl)
  show OGo p e below _ (T15.setTop (mkF m 14 #[.val (.ref a0), .val (.int (-1 : Int32)), .val (.int (13 : Int32)), .val (.int (16 : Int32))] []))
  refine OGo.by (fun _ k => XS.iinc X15.here hx rfl (hb hby d6_14) rfl (l' := #[.val (.ref a0), .val (.int (-1 : Int32)), .val (.int (14 : Int32)), .val (.int (16 : Int32))]) rfl k) ?_
  show OGo p e below _ (T15.setTop (mkF m 17 #[.val (.ref a0), .val (.int (-1 : Int32)), .val (.int (14 : Int32)), .val (.int (16 : Int32))] []))
  refine OGo.by (fun _ k => XS.goto X15.here hx rfl (pc0 := 17) (pc' := 5) rfl (hb hby d6_17) (by decide) (by decide) k) ?_
  show OGo p e below _ (T15.setTop (mkF m 5 #[.val (.ref a0), .val (.int (-1 : Int32)), .val (.int (14 : Int32)), .val (.int (16 : Int32))] []))
  refine OGo.by (fun _ k => XS.iloadN X15.here hx rfl (hb hby d6_5) rfl k) ?_
  show OGo p e below _ (T15.setTop (mkF m 6 #[.val (.ref a0), .val (.int (-1 : Int32)), .val (.int (14 : Int32)), .val (.int (16 : Int32))] [(.int (14 : Int32))]))
  refine OGo.by (fun _ k => XS.iloadN X15.here hx rfl (hb hby d6_6) rfl k) ?_
  show OGo p e below _ (T15.setTop (mkF m 7 #[.val (.ref a0), .val (.int (-1 : Int32)), .val (.int (14 : Int32)), .val (.int (16 : Int32))] [(.int (16 : Int32)), (.int (14 : Int32))]))
  refine OGo.by (fun _ k => XS.icmpNo X15.here hx rfl (hb hby d6_7) rfl (tlt (by decide : (14 : Int32) < (16 : Int32))).2.1 k) ?_
  show OGo p e below _ (T15.setTop (mkF m 10 #[.val (.ref a0), .val (.int (-1 : Int32)), .val (.int (14 : Int32)), .val (.int (16 : Int32))] []))
  refine OGo.by (fun _ k => XS.aloadN X15.here hx rfl (hb hby d6_10) rfl rfl k) ?_
  show OGo p e below _ (T15.setTop (mkF m 11 #[.val (.ref a0), .val (.int (-1 : Int32)), .val (.int (14 : Int32)), .val (.int (16 : Int32))] [(.ref a0)]))
  refine OGo.by (fun _ k => XS.iloadN X15.here hx rfl (hb hby d6_11) rfl k) ?_
  show OGo p e below _ (T15.setTop (mkF m 12 #[.val (.ref a0), .val (.int (-1 : Int32)), .val (.int (14 : Int32)), .val (.int (16 : Int32))] [(.int (14 : Int32)), (.ref a0)]))
  refine OGo.by (fun _ k => XS.iloadN X15.here hx rfl (hb hby d6_12) rfl k) ?_
  show OGo p e below _ (T15.setTop (mkF m 13 #[.val (.ref a0), .val (.int (-1 : Int32)), .val (.int (14 : Int32)), .val (.int (16 : Int32))] [(.int (-1 : Int32)), (.int (14 : Int32)), (.ref a0)]))
  obtain ⟨cl16, Ar16, q16, S16, M16, Hs16, G16⟩ := id V15
  obtain ⟨T16, h16, X16, e16, W16, st16⟩ := stI X15 hx hZ e15 Ar16 (j := (14 : Int32)) (inb_of S16 ⟨(by decide), (by decide)⟩) (g := (mkF m 13 #[.val (.ref a0), .val (.int (-1 : Int32)), .val (.int (14 : Int32)), .val (.int (16 : Int32))] [(.int (-1 : Int32)), (.int (14 : Int32)), (.ref a0)])) rfl rfl (hb hby d6_13)
  refine OGo.by st16 ?_
  have N16 := Fr.snoc X16 N15 g_a0
  have K16 : Keep h0 h16 [a0] := (K15).wr W16 (Or.inl (List.mem_of_getElem? (i := 0) rfl))
  have V16 : Arv Z h16 a0 ka .int (16 : Int32) [(.int (-1 : Int32)), (.int (-1 : Int32)), (.int (-1 : Int32)), (.int (-1 : Int32)), (.int (-1 : Int32)), (.int (-1 : Int32)), (.int (-1 : Int32)), (.int (-1 : Int32)), (.int (-1 : Int32)), (.int (-1 : Int32)), (.int (-1 : Int32)), (.int (-1 : Int32)), (.int (-1 : Int32)), (.int (-1 : Int32)), (.int (-1 : Int32)), (.int (0 : Int32))] (.int (0 : Int32)) := Arv.set Ar16 q16 S16 M16 Hs16 G16 rfl W16 14 rfl (Nat.le_of_ble_eq_true rfl)
  show OGo p e below _ (T16.setTop (mkF m 14 #[.val (.ref a0), .val (.int (-1 : Int32)), .val (.int (14 : Int32)), .val (.int (16 : Int32))] []))
  refine OGo.by (fun _ k => XS.iinc X16.here hx rfl (hb hby d6_14) rfl (l' := #[.val (.ref a0), .val (.int (-1 : Int32)), .val (.int (15 : Int32)), .val (.int (16 : Int32))]) rfl k) ?_
  show OGo p e below _ (T16.setTop (mkF m 17 #[.val (.ref a0), .val (.int (-1 : Int32)), .val (.int (15 : Int32)), .val (.int (16 : Int32))] []))
  refine OGo.by (fun _ k => XS.goto X16.here hx rfl (pc0 := 17) (pc' := 5) rfl (hb hby d6_17) (by decide) (by decide) k) ?_
  show OGo p e below _ (T16.setTop (mkF m 5 #[.val (.ref a0), .val (.int (-1 : Int32)), .val (.int (15 : Int32)), .val (.int (16 : Int32))] []))
  refine OGo.by (fun _ k => XS.iloadN X16.here hx rfl (hb hby d6_5) rfl k) ?_
  show OGo p e below _ (T16.setTop (mkF m 6 #[.val (.ref a0), .val (.int (-1 : Int32)), .val (.int (15 : Int32)), .val (.int (16 : Int32))] [(.int (15 : Int32))]))
  refine OGo.by (fun _ k => XS.iloadN X16.here hx rfl (hb hby d6_6) rfl k) ?_
  show OGo p e below _ (T16.setTop (mkF m 7 #[.val (.ref a0), .val (.int (-1 : Int32)), .val (.int (15 : Int32)), .val (.int (16 : Int32))] [(.int (16 : Int32)), (.int (15 : Int32))]))
  refine OGo.by (fun _ k => XS.icmpNo X16.here hx rfl (hb hby d6_7) rfl (tlt (by decide : (15 : Int32) < (16 : Int32))).2.1 k) ?_
  show OGo p e below _ (T16.setTop (mkF m 10 #[.val (.ref a0), .val (.int (-1 : Int32)), .val (.int (15 : Int32)), .val (.int (16 : Int32))] []))
  refine OGo.by (fun _ k => XS.aloadN X16.here hx rfl (hb hby d6_10) rfl rfl k) ?_
  show OGo p e below _ (T16.setTop (mkF m 11 #[.val (.ref a0), .val (.int (-1 : Int32)), .val (.int (15 : Int32)), .val (.int (16 : Int32))] [(.ref a0)]))
  refine OGo.by (fun _ k => XS.iloadN X16.here hx rfl (hb hby d6_11) rfl k) ?_
  show OGo p e below _ (T16.setTop (mkF m 12 #[.val (.ref a0), .val (.int (-1 : Int32)), .val (.int (15 : Int32)), .val (.int (16 : Int32))] [(.int (15 : Int32)), (.ref a0)]))
  refine OGo.by (fun _ k => XS.iloadN X16.here hx rfl (hb hby d6_12) rfl k) ?_
  show OGo p e below _ (T16.setTop (mkF m 13 #[.val (.ref a0), .val (.int (-1 : Int32)), .val (.int (15 : Int32)), .val (.int (16 : Int32))] [(.int (-1 : Int32)), (.int (15 : Int32)), (.ref a0)]))
  obtain ⟨cl17, Ar17, q17, S17, M17, Hs17, G17⟩ := id V16
  obtain ⟨T17, h17, X17, e17, W17, st17⟩ := stI X16 hx hZ e16 Ar17 (j := (15 : Int32)) (inb_of S17 ⟨(by decide), (by decide)⟩) (g := (mkF m 13 #[.val (.ref a0), .val (.int (-1 : Int32)), .val (.int (15 : Int32)), .val (.int (16 : Int32))] [(.int (-1 : Int32)), (.int (15 : Int32)), (.ref a0)])) rfl rfl (hb hby d6_13)
  refine OGo.by st17 ?_
  have N17 := Fr.snoc X17 N16 g_a0
  have K17 : Keep h0 h17 [a0] := (K16).wr W17 (Or.inl (List.mem_of_getElem? (i := 0) rfl))
  have V17 : Arv Z h17 a0 ka .int (16 : Int32) [(.int (-1 : Int32)), (.int (-1 : Int32)), (.int (-1 : Int32)), (.int (-1 : Int32)), (.int (-1 : Int32)), (.int (-1 : Int32)), (.int (-1 : Int32)), (.int (-1 : Int32)), (.int (-1 : Int32)), (.int (-1 : Int32)), (.int (-1 : Int32)), (.int (-1 : Int32)), (.int (-1 : Int32)), (.int (-1 : Int32)), (.int (-1 : Int32)), (.int (-1 : Int32))] (.int (0 : Int32)) := Arv.set Ar17 q17 S17 M17 Hs17 G17 rfl W17 15 rfl (Nat.le_of_ble_eq_true rfl)
  show OGo p e below _ (T17.setTop (mkF m 14 #[.val (.ref a0), .val (.int (-1 : Int32)), .val (.int (15 : Int32)), .val (.int (16 : Int32))] []))
  refine OGo.by (fun _ k => XS.iinc X17.here hx rfl (hb hby d6_14) rfl (l' := #[.val (.ref a0), .val (.int (-1 : Int32)), .val (.int (16 : Int32)), .val (.int (16 : Int32))]) rfl k) ?_
  show OGo p e below _ (T17.setTop (mkF m 17 #[.val (.ref a0), .val (.int (-1 : Int32)), .val (.int (16 : Int32)), .val (.int (16 : Int32))] []))
  refine OGo.by (fun _ k => XS.goto X17.here hx rfl (pc0 := 17) (pc' := 5) rfl (hb hby d6_17) (by decide) (by decide) k) ?_
  show OGo p e below _ (T17.setTop (mkF m 5 #[.val (.ref a0), .val (.int (-1 : Int32)), .val (.int (16 : Int32)), .val (.int (16 : Int32))] []))
  refine OGo.by (fun _ k => XS.iloadN X17.here hx rfl (hb hby d6_5) rfl k) ?_
  show OGo p e below _ (T17.setTop (mkF m 6 #[.val (.ref a0), .val (.int (-1 : Int32)), .val (.int (16 : Int32)), .val (.int (16 : Int32))] [(.int (16 : Int32))]))
  refine OGo.by (fun _ k => XS.iloadN X17.here hx rfl (hb hby d6_6) rfl k) ?_
  show OGo p e below _ (T17.setTop (mkF m 7 #[.val (.ref a0), .val (.int (-1 : Int32)), .val (.int (16 : Int32)), .val (.int (16 : Int32))] [(.int (16 : Int32)), (.int (16 : Int32))]))
  refine OGo.by (fun _ k => XS.icmpYes X17.here hx rfl (pc0 := 7) (pc' := 20) rfl (hb hby d6_7) rfl (flt (by decide : ¬ ((16 : Int32) < (16 : Int32)))).2.1 (by decide) (by decide) k) ?_
  show OGo p e below _ (T17.setTop (mkF m 20 #[.val (.ref a0), .val (.int (-1 : Int32)), .val (.int (16 : Int32)), .val (.int (16 : Int32))] []))
  obtain ⟨fs, hr, hrun, hended, hW, hsame⟩ := X17.leave (v := none) (fun _ => rfl)
  refine OGo.ret (X17.returnOut hx Bd.returns (hb hby d6_20) hr) hrun hended ⟨_, _, rfl, ?_, ⟨_, rfl⟩, hW, hsame.mono (by decide) (by decide)⟩
  show Q_rm_fi16 Z a0 ka h0 n0 _ T17.heap _
  rw [e17]
  exact ⟨rfl, N17, K17, V17⟩
theorem d1_0 : decode prog_1_method_1_code 0 = .ok (.aload_n 0, 1) := by decide +kernel
theorem d1_1 : decode prog_1_method_1_code 1 = .ok (.invokespecial 1, 3) := by decide +kernel
theorem d1_4 : decode prog_1_method_1_code 4 = .ok (.bipush 64, 2) := by decide +kernel
theorem d1_6 : decode prog_1_method_1_code 6 = .ok (.lconst 1, 1) := by decide +kernel
theorem d1_7 : decode prog_1_method_1_code 7 = .ok (.ldc2_w 7, 3) := by decide +kernel
theorem d1_10 : decode prog_1_method_1_code 10 = .ok (.iload_n 1, 1) := by decide +kernel
theorem d1_11 : decode prog_1_method_1_code 11 = .ok (.i2l, 1) := by decide +kernel
theorem d1_12 : decode prog_1_method_1_code 12 = .ok (.lmul, 1) := by decide +kernel
theorem d1_13 : decode prog_1_method_1_code 13 = .ok (.lconst 1, 1) := by decide +kernel
theorem d1_14 : decode prog_1_method_1_code 14 = .ok (.lsub, 1) := by decide +kernel
theorem d1_15 : decode prog_1_method_1_code 15 = .ok (.invokestatic 9, 3) := by decide +kernel
theorem own_pd1 : parseMethodDescriptor "(JJ)J" = some ⟨[.long, .long], some .long⟩ := by decide +kernel
theorem d1_18 : decode prog_1_method_1_code 18 = .ok (.invokestatic 15, 3) := by decide +kernel
theorem own_pd2 : parseMethodDescriptor "(J)I" = some ⟨[.long], some .int⟩ := by decide +kernel
theorem d1_21 : decode prog_1_method_1_code 21 = .ok (.isub, 1) := by decide +kernel
theorem d1_22 : decode prog_1_method_1_code 22 = .ok (.istore_n 2, 1) := by decide +kernel
theorem d1_23 : decode prog_1_method_1_code 23 = .ok (.aload_n 0, 1) := by decide +kernel
theorem d1_24 : decode prog_1_method_1_code 24 = .ok (.iconst 1, 1) := by decide +kernel
theorem d1_25 : decode prog_1_method_1_code 25 = .ok (.iload_n 2, 1) := by decide +kernel
theorem d1_26 : decode prog_1_method_1_code 26 = .ok (.ishl, 1) := by decide +kernel
theorem d1_27 : decode prog_1_method_1_code 27 = .ok (.newarray .int, 2) := by decide +kernel
theorem d1_29 : decode prog_1_method_1_code 29 = .ok (.putfield 21, 3) := by decide +kernel
theorem d1_32 : decode prog_1_method_1_code 32 = .ok (.aload_n 0, 1) := by decide +kernel
theorem d1_33 : decode prog_1_method_1_code 33 = .ok (.getfield 21, 3) := by decide +kernel
theorem d1_36 : decode prog_1_method_1_code 36 = .ok (.iconst (-1), 1) := by decide +kernel
theorem d1_37 : decode prog_1_method_1_code 37 = .ok (.invokestatic 27, 3) := by decide +kernel
theorem own_pd3 : parseMethodDescriptor "([II)V" = some ⟨[(.array .int), .int], none⟩ := by decide +kernel
theorem d1_40 : decode prog_1_method_1_code 40 = .ok (.aload_n 0, 1) := by decide +kernel
theorem d1_41 : decode prog_1_method_1_code 41 = .ok (.iload_n 1, 1) := by decide +kernel
theorem d1_42 : decode prog_1_method_1_code 42 = .ok (.newarray .int, 2) := by decide +kernel
theorem d1_44 : decode prog_1_method_1_code 44 = .ok (.putfield 33, 3) := by decide +kernel
theorem d1_47 : decode prog_1_method_1_code 47 = .ok (.aload_n 0, 1) := by decide +kernel
theorem d1_48 : decode prog_1_method_1_code 48 = .ok (.iload_n 1, 1) := by decide +kernel
theorem d1_49 : decode prog_1_method_1_code 49 = .ok (.newarray .int, 2) := by decide +kernel
theorem d1_51 : decode prog_1_method_1_code 51 = .ok (.putfield 36, 3) := by decide +kernel
theorem d1_54 : decode prog_1_method_1_code 54 = .ok (.aload_n 0, 1) := by decide +kernel
theorem d1_55 : decode prog_1_method_1_code 55 = .ok (.bipush 64, 2) := by decide +kernel
theorem d1_57 : decode prog_1_method_1_code 57 = .ok (.iload_n 2, 1) := by decide +kernel
theorem d1_58 : decode prog_1_method_1_code 58 = .ok (.isub, 1) := by decide +kernel
theorem d1_59 : decode prog_1_method_1_code 59 = .ok (.putfield 39, 3) := by decide +kernel
theorem d1_62 : decode prog_1_method_1_code 62 = .ok (.return_, 1) := by decide +kernel
theorem own_pn1 : plainName "com/example/faces_into_crowds/facesintocrowds/Buckets" = true := by first | (simp [plainName, overriddenIn]; done) | decide +kernel
theorem ef_rm_in (m : MethodId) (a0 : Addr) (p1 : Int32) : entryFrame m #[(.ref a0), (.int p1)] 3 = mkF m 0 #[.val (.ref a0), .val (.int p1), .unset] [] := by first | (simp [entryFrame, mkF, argsToLocals, Value.category]; done) | rfl
def Q_rm_in (Z : State) (a0 : Addr) (p1 : Int32) (h0 : Heap) (n0 : Nat) (v : Option Value) (h : Heap) (L : List Loc) : Prop := ∃ zf : Addr, ∃ zn : Addr, ∃ zs : Addr, ∃ kf : ClassId, ∃ kx : ClassId, ∃ ks : ClassId, ∃ mm : Nat, ∃ cc : Nat, ∃ ml : Int32, ∃ sh : Int32, v = none ∧ Fr n0 L ∧ Keep h0 h [a0] ∧ (h0.size ≤ zf) ∧ (h0.size ≤ zn) ∧ (h0.size ≤ zs) ∧ (zf ≠ zn) ∧ (zf ≠ zs) ∧ (zn ≠ zs) ∧ (own_cfg mm cc ml sh p1) ∧ (Exa Z h a0 "com/example/faces_into_crowds/facesintocrowds/Buckets") ∧ (Fld Z h a0 "com/example/faces_into_crowds/facesintocrowds/Buckets" "mFirst" "[I" (.ref zf)) ∧ (Fld Z h a0 "com/example/faces_into_crowds/facesintocrowds/Buckets" "mNext" "[I" (.ref zn)) ∧ (Fld Z h a0 "com/example/faces_into_crowds/facesintocrowds/Buckets" "mSlots" "[I" (.ref zs)) ∧ (Fld Z h a0 "com/example/faces_into_crowds/facesintocrowds/Buckets" "mUnits" "[I" .null) ∧ (Fld Z h a0 "com/example/faces_into_crowds/facesintocrowds/Buckets" "mShift" "I" (.int sh)) ∧ (Fld Z h a0 "com/example/faces_into_crowds/facesintocrowds/Buckets" "mBuckets" "I" (.int (Int32.ofNat 0))) ∧ (Arv Z h zf kf .int ml ((List.replicate mm (-1 : Int32)).map Value.int) (.int (0 : Int32))) ∧ (Arv Z h zn kx .int p1 ((List.replicate cc (0 : Int32)).map Value.int) (.int (0 : Int32))) ∧ (Arv Z h zs ks .int p1 ((List.replicate cc (0 : Int32)).map Value.int) (.int (0 : Int32)))
set_option maxRecDepth 65536 in
set_option maxHeartbeats 40000000 in
theorem rm_in (l : Launch) (Z : State) (av0 : Array Value) (hw : ∀ d ∈ tables_1, d.before av0 Z = true) (ws : List Jvm.Cond) (a0 : Addr) (p1 : Int32) (h0 : Heap) (n0 : Nat) (Z0 : n0 ≤ h0.size) (E0 : Exa Z h0 a0 "com/example/faces_into_crowds/facesintocrowds/Buckets") (F_mFirst : Fld Z h0 a0 "com/example/faces_into_crowds/facesintocrowds/Buckets" "mFirst" "[I" .null) (F_mNext : Fld Z h0 a0 "com/example/faces_into_crowds/facesintocrowds/Buckets" "mNext" "[I" .null) (F_mSlots : Fld Z h0 a0 "com/example/faces_into_crowds/facesintocrowds/Buckets" "mSlots" "[I" .null) (F_mUnits : Fld Z h0 a0 "com/example/faces_into_crowds/facesintocrowds/Buckets" "mUnits" "[I" .null) (F_mShift : Fld Z h0 a0 "com/example/faces_into_crowds/facesintocrowds/Buckets" "mShift" "I" (.int (0 : Int32))) (F_mBuckets : Fld Z h0 a0 "com/example/faces_into_crowds/facesintocrowds/Buckets" "mBuckets" "I" (.int (0 : Int32))) (g_a0 : n0 ≤ a0) (hcp : p1 = 4 ∨ p1 = 5 ∨ p1 = 6 ∨ p1 = 7) :
    MetFree l (⟨"com/example/faces_into_crowds/facesintocrowds/Buckets", "<init>", "(I)V"⟩ : MethodName) (head1 (Jvm.Cond.code (⟨"com/example/faces_into_crowds/facesintocrowds/Buckets", "<init>", "(I)V"⟩ : MethodName) prog_1_method_1_code 3 none :: ws) ({ frames := 2, cells := 3, slots := 30, locals := 29 } : Room)) (fun a U => a = #[(.ref a0), (.int p1)] ∧ Z.Warmed39 U.vm ∧ U.heap = h0) (fun _ _ _ _ _ => True) (fun _ U o U' => ∃ v L, o = .returned v ∧ Q_rm_in Z a0 p1 h0 n0 v U'.heap L ∧ FrameEnd U o U' L ({ frames := 2, cells := 3, slots := 30, locals := 29 } : Room).cells ({ frames := 2, cells := 3, slots := 30, locals := 29 } : Room).slots) := by
  refine MetFree.of_bodySF (plainFor_of_name own_pn1) hisR ?_
  intro p e s m args below meth c s₁ Bd hml0 hP hK
  obtain ⟨rfl, hZ, hh⟩ := hP
  have hx := Bd.exec
  have hby := Bd.bytes
  have hml : c.maxLocals = 3 := hml0
  have hown : s.vm.findClass "com/example/faces_into_crowds/facesintocrowds/Buckets" = some m.cls := findClass_of_methodNamed Bd.named
  have hnm := (name_of_methodNamed Bd.named Bd.method).1
  have X0 : Stand p l e ({ frames := 2, cells := 3, slots := 30, locals := 29 } : Room) s m #[(.ref a0), (.int p1)] below meth c s₁ [] 0 0 := Stand.of_body Bd
  have e0 : s₁.heap = h0 := by rw [← hh, Bd.state]; rfl
  have N0 := Fr.nil n0
  refine OGo.by (P := fun U' o => ∃ v L, o = .returned v ∧ Q_rm_in Z a0 p1 h0 n0 v U'.heap L ∧ FrameEnd s o U' L ({ frames := 2, cells := 3, slots := 30, locals := 29 } : Room).cells ({ frames := 2, cells := 3, slots := 30, locals := 29 } : Room).slots) (fun T_ k_ => castTop (ef_rm_in m a0 p1) k_) ?_
  show OGo p e below _ (s₁.setTop (mkF m 0 #[.val (.ref a0), .val (.int p1), .unset] []))
  rcases hcp with hp1 | hp1 | hp1 | hp1
  · refine own_ogc (S' := s₁.setTop (mkF m 0 #[.val (.ref a0), .val (.int (4 : Int32)), .unset] [])) (by rw [hp1]) ?_
    refine OGo.by (fun _ k => XS.aloadN X0.here hx rfl (hb hby d1_0) rfl rfl k) ?_
    show OGo p e below _ (s₁.setTop (mkF m 1 #[.val (.ref a0), .val (.int (4 : Int32)), .unset] [(.ref a0)]))
    obtain ⟨T1, X1, e1, st1⟩ := initO X0 hx hZ hown (hw _ (List.mem_of_getElem? (i := 10) rfl)) (hw _ (List.mem_of_getElem? (i := 11) rfl)) (hw _ (List.mem_of_getElem? (i := 12) rfl)) e0 (g := (mkF m 1 #[.val (.ref a0), .val (.int (4 : Int32)), .unset] [(.ref a0)])) rfl (by rw [hml]; rfl) rfl (hb hby d1_1) (by decide) (W := 0) (by show 2 * 0 + _ ≤ _; exact Nat.le_of_eq rfl) (by decide)
    refine OGo.by st1 ?_
    show OGo p e below _ (T1.setTop (mkF m 4 #[.val (.ref a0), .val (.int (4 : Int32)), .unset] []))
    refine OGo.by (fun _ k => XS.bipush X1.here hx rfl (hb hby d1_4) k) ?_
    show OGo p e below _ (T1.setTop (mkF m 6 #[.val (.ref a0), .val (.int (4 : Int32)), .unset] [(.int (64 : Int32))]))
    refine OGo.by (fun _ k => XS.lconst X1.here hx rfl (hb hby d1_6) k) ?_
    show OGo p e below _ (T1.setTop (mkF m 7 #[.val (.ref a0), .val (.int (4 : Int32)), .unset] [(.long (1 : Int64)), (.int (64 : Int32))]))
    refine OGo.by (X1.ldc2Long hx hown (mvT hZ (hw _ (List.mem_of_getElem? (i := 13) rfl))) (g := (mkF m 7 #[.val (.ref a0), .val (.int (4 : Int32)), .unset] [(.long (1 : Int64)), (.int (64 : Int32))])) rfl (hb hby d1_7)) ?_
    show OGo p e below _ (T1.setTop (mkF m 10 #[.val (.ref a0), .val (.int (4 : Int32)), .unset] [(.long (2 : Int64)), (.long (1 : Int64)), (.int (64 : Int32))]))
    refine OGo.by (fun _ k => XS.iloadN X1.here hx rfl (hb hby d1_10) rfl k) ?_
    show OGo p e below _ (T1.setTop (mkF m 11 #[.val (.ref a0), .val (.int (4 : Int32)), .unset] [(.int (4 : Int32)), (.long (2 : Int64)), (.long (1 : Int64)), (.int (64 : Int32))]))
    refine OGo.by (fun _ k => XS.i2l X1.here hx rfl (hb hby d1_11) rfl k) ?_
    show OGo p e below _ (T1.setTop (mkF m 12 #[.val (.ref a0), .val (.int (4 : Int32)), .unset] [(.long ((4 : Int32).toInt64)), (.long (2 : Int64)), (.long (1 : Int64)), (.int (64 : Int32))]))
    rw [(by decide : ((4 : Int32).toInt64) = (4 : Int64))]
    show OGo p e below _ (T1.setTop (mkF m 12 #[.val (.ref a0), .val (.int (4 : Int32)), .unset] [(.long (4 : Int64)), (.long (2 : Int64)), (.long (1 : Int64)), (.int (64 : Int32))]))
    refine OGo.by (fun _ k => XS.lmul X1.here hx rfl (hb hby d1_12) rfl k) ?_
    show OGo p e below _ (T1.setTop (mkF m 13 #[.val (.ref a0), .val (.int (4 : Int32)), .unset] [(.long (8 : Int64)), (.long (1 : Int64)), (.int (64 : Int32))]))
    refine OGo.by (fun _ k => XS.lconst X1.here hx rfl (hb hby d1_13) k) ?_
    show OGo p e below _ (T1.setTop (mkF m 14 #[.val (.ref a0), .val (.int (4 : Int32)), .unset] [(.long (1 : Int64)), (.long (8 : Int64)), (.long (1 : Int64)), (.int (64 : Int32))]))
    refine OGo.by (fun _ k => XS.lsub X1.here hx rfl (hb hby d1_14) rfl k) ?_
    show OGo p e below _ (T1.setTop (mkF m 15 #[.val (.ref a0), .val (.int (4 : Int32)), .unset] [(.long (7 : Int64)), (.long (1 : Int64)), (.int (64 : Int32))]))
    have H2 := Jvm.LawKit.callS X1 hx (y := (⟨"java/lang/Math", "max", "(JJ)J"⟩ : MethodName)) hown (mvT hZ (hw _ (List.mem_of_getElem? (i := 14) rfl))) (mvT hZ (hw _ (List.mem_of_getElem? (i := 15) rfl))) (mvT hZ (hw _ (List.mem_of_getElem? (i := 16) rfl))) (mvT hZ (hw _ (List.mem_of_getElem? (i := 17) rfl))) (by decide) (backOf (W := 1) (rm_mx7 l Z av0 hw [] h0 n0 Z0) hZ (hw _ (List.mem_of_getElem? (i := 17) rfl)) (hw _ (List.mem_of_getElem? (i := 16) rfl)) (by decide) (by decide)) (g := (mkF m 15 #[.val (.ref a0), .val (.int (4 : Int32)), .unset] [(.long (7 : Int64)), (.long (1 : Int64)), (.int (64 : Int32))])) rfl (by rw [hml]; rfl) (argsL := [(.long (1 : Int64)), (.long (7 : Int64))]) (rest := [(.int (64 : Int32))]) (lenOf own_pd1 rfl) rfl (by show 2 * 0 + _ ≤ _; exact Nat.le_of_eq rfl) (hb hby d1_15) (fun _ _ => ⟨rfl, e1, (by decide : 0 + 0 ≤ _), (by decide : 0 + 0 ≤ _)⟩)
    refine own_cpsP H2 (c' := 0) (s' := 0) rfl rfl N0 (r := (some (.long (7 : Int64)))) (h1 := h0) (fun _ _ _ q => q) ?_
    clear H2
    intro T2 L2 X2 N2 e2
    show OGo p e below _ (T2.setTop (mkF m 18 #[.val (.ref a0), .val (.int (4 : Int32)), .unset] [(.long (7 : Int64)), (.int (64 : Int32))]))
    have H3 := Jvm.LawKit.callS X2 hx (y := (⟨"java/lang/Long", "numberOfLeadingZeros", "(J)I"⟩ : MethodName)) hown (mvT hZ (hw _ (List.mem_of_getElem? (i := 18) rfl))) (mvT hZ (hw _ (List.mem_of_getElem? (i := 19) rfl))) (mvT hZ (hw _ (List.mem_of_getElem? (i := 20) rfl))) (mvT hZ (hw _ (List.mem_of_getElem? (i := 21) rfl))) (by decide) (backOf (W := 1) (rm_nzl7 l Z av0 hw [] h0 n0 Z0) hZ (hw _ (List.mem_of_getElem? (i := 21) rfl)) (hw _ (List.mem_of_getElem? (i := 20) rfl)) (by decide) (by decide)) (g := (mkF m 18 #[.val (.ref a0), .val (.int (4 : Int32)), .unset] [(.long (7 : Int64)), (.int (64 : Int32))])) rfl (by rw [hml]; rfl) (argsL := [(.long (7 : Int64))]) (rest := [(.int (64 : Int32))]) (lenOf own_pd2 rfl) rfl (by show 2 * 0 + _ ≤ _; exact Nat.le_of_eq rfl) (hb hby d1_18) (fun _ _ => ⟨rfl, e2, (by decide : 0 + 0 ≤ _), (by decide : 0 + 0 ≤ _)⟩)
    refine own_cpsP H3 (c' := 0) (s' := 0) rfl rfl N2 (r := (some (.int (61 : Int32)))) (h1 := h0) (fun _ _ _ q => q) ?_
    clear H3
    intro T3 L3 X3 N3 e3
    show OGo p e below _ (T3.setTop (mkF m 21 #[.val (.ref a0), .val (.int (4 : Int32)), .unset] [(.int (61 : Int32)), (.int (64 : Int32))]))
    refine OGo.by (fun _ k => XS.isub X3.here hx rfl (hb hby d1_21) rfl k) ?_
    show OGo p e below _ (T3.setTop (mkF m 22 #[.val (.ref a0), .val (.int (4 : Int32)), .unset] [(.int (3 : Int32))]))
    refine OGo.by (fun _ k => XS.istoreN X3.here hx rfl (hb hby d1_22) rfl (l' := #[.val (.ref a0), .val (.int (4 : Int32)), .val (.int (3 : Int32))]) rfl k) ?_
    show OGo p e below _ (T3.setTop (mkF m 23 #[.val (.ref a0), .val (.int (4 : Int32)), .val (.int (3 : Int32))] []))
    refine OGo.by (fun _ k => XS.aloadN X3.here hx rfl (hb hby d1_23) rfl rfl k) ?_
    show OGo p e below _ (T3.setTop (mkF m 24 #[.val (.ref a0), .val (.int (4 : Int32)), .val (.int (3 : Int32))] [(.ref a0)]))
    refine OGo.by (fun _ k => XS.iconst X3.here hx rfl (hb hby d1_24) k) ?_
    show OGo p e below _ (T3.setTop (mkF m 25 #[.val (.ref a0), .val (.int (4 : Int32)), .val (.int (3 : Int32))] [(.int (1 : Int32)), (.ref a0)]))
    refine OGo.by (fun _ k => XS.iloadN X3.here hx rfl (hb hby d1_25) rfl k) ?_
    show OGo p e below _ (T3.setTop (mkF m 26 #[.val (.ref a0), .val (.int (4 : Int32)), .val (.int (3 : Int32))] [(.int (3 : Int32)), (.int (1 : Int32)), (.ref a0)]))
    refine OGo.by (fun _ k => XS.ishl X3.here hx rfl (hb hby d1_26) rfl k) ?_
    show OGo p e below _ (T3.setTop (mkF m 27 #[.val (.ref a0), .val (.int (4 : Int32)), .val (.int (3 : Int32))] [(.int ((1 : Int32) <<< ((3 : Int32) &&& 31))), (.ref a0)]))
    rw [(by decide : ((1 : Int32) <<< ((3 : Int32) &&& 31)) = (8 : Int32))]
    show OGo p e below _ (T3.setTop (mkF m 27 #[.val (.ref a0), .val (.int (4 : Int32)), .val (.int (3 : Int32))] [(.int (8 : Int32)), (.ref a0)]))
    obtain ⟨T4, h4, k4, X4, e4, E4, A4, st4⟩ := newP X3 hx hZ (hw _ (List.mem_of_getElem? (i := 0) rfl)) e3 (g := (mkF m 27 #[.val (.ref a0), .val (.int (4 : Int32)), .val (.int (3 : Int32))] [(.int (8 : Int32)), (.ref a0)])) rfl (hb hby d1_27) rfl (by decide : ¬ ((8 : Int32) < (0 : Int32))) (cap := 8) (by decide) (by decide) (by decide) (by decide)
    obtain ⟨b4, g4⟩ : ∃ z, z = h0.size := ⟨_, rfl⟩
    rw [← g4] at A4 st4
    have ne_a0_b4 : a0 ≠ b4 := Nat.ne_of_lt (Nat.lt_of_lt_of_le E0.lt (Nat.le_of_eq g4.symm))
    have g_b4 : n0 ≤ b4 := Nat.le_trans Z0 (Nat.le_of_eq g4.symm)
    have sz_b4 : h0.size ≤ b4 := Nat.le_trans (Nat.le_refl _) (Nat.le_of_eq g4.symm)
    refine OGo.by st4 ?_
    have K4 : Keep h0 h4 [a0] := ((Keep.refl h0 [a0])).ext E4
    have V4 : Arv Z h4 b4 k4 .int (8 : Int32) [(.int (0 : Int32)), (.int (0 : Int32)), (.int (0 : Int32)), (.int (0 : Int32)), (.int (0 : Int32)), (.int (0 : Int32)), (.int (0 : Int32)), (.int (0 : Int32))] (.int (0 : Int32)) := (Arv.new A4 (by decide)).pad (pad_rep [] (.int (0 : Int32)) 8)
    show OGo p e below _ (T4.setTop (mkF m 29 #[.val (.ref a0), .val (.int (4 : Int32)), .val (.int (3 : Int32))] [(.ref b4), (.ref a0)]))
    have f5 : Exa Z h4 a0 "com/example/faces_into_crowds/facesintocrowds/Buckets" := (E0.ext E4)
    have f6 : Fld Z h4 a0 "com/example/faces_into_crowds/facesintocrowds/Buckets" "mFirst" "[I" .null := (F_mFirst.ext E4)
    obtain ⟨T7, h7, X7, e7, W7, st7⟩ := putF X4 hx hZ hown (host := "") (Or.inl (hw _ (List.mem_of_getElem? (i := 27) rfl))) Via.refl e4 f6 f5 (Or.inr ⟨(hw _ (List.mem_of_getElem? (i := 28) rfl)), rfl, hnm⟩) (hw _ (List.mem_of_getElem? (i := 5) rfl)) (ty := (.array .int)) (by decide) rfl rfl (g := (mkF m 29 #[.val (.ref a0), .val (.int (4 : Int32)), .val (.int (3 : Int32))] [(.ref b4), (.ref a0)])) rfl rfl (hb hby d1_29)
    refine OGo.by st7 ?_
    have Fw7 := f6.same W7
    have N7 := Fr.snoc X7 N3 g_a0
    have K7 : Keep h0 h7 [a0] := (K4).wr W7 (Or.inl (List.mem_of_getElem? (i := 0) rfl))
    show OGo p e below _ (T7.setTop (mkF m 32 #[.val (.ref a0), .val (.int (4 : Int32)), .val (.int (3 : Int32))] []))
    refine OGo.by (fun _ k => XS.aloadN X7.here hx rfl (hb hby d1_32) rfl rfl k) ?_
    show OGo p e below _ (T7.setTop (mkF m 33 #[.val (.ref a0), .val (.int (4 : Int32)), .val (.int (3 : Int32))] [(.ref a0)]))
    obtain ⟨T8, X8, e8, st8⟩ := getF X7 hx hZ hown (host := "") (Or.inl (hw _ (List.mem_of_getElem? (i := 27) rfl))) Via.refl e7 Fw7 (g := (mkF m 33 #[.val (.ref a0), .val (.int (4 : Int32)), .val (.int (3 : Int32))] [(.ref a0)])) rfl rfl (hb hby d1_33)
    refine OGo.by st8 ?_
    show OGo p e below _ (T8.setTop (mkF m 36 #[.val (.ref a0), .val (.int (4 : Int32)), .val (.int (3 : Int32))] [(.ref b4)]))
    refine OGo.by (fun _ k => XS.iconst X8.here hx rfl (hb hby d1_36) k) ?_
    show OGo p e below _ (T8.setTop (mkF m 37 #[.val (.ref a0), .val (.int (4 : Int32)), .val (.int (3 : Int32))] [(.int (-1 : Int32)), (.ref b4)]))
    have f10 : Arv Z h7 b4 k4 .int (8 : Int32) [(.int (0 : Int32)), (.int (0 : Int32)), (.int (0 : Int32)), (.int (0 : Int32)), (.int (0 : Int32)), (.int (0 : Int32)), (.int (0 : Int32)), (.int (0 : Int32))] (.int (0 : Int32)) := (V4.other W7 (Ne.symm ne_a0_b4))
    have H9 := Jvm.LawKit.callS X8 hx (y := (⟨"java/util/Arrays", "fill", "([II)V"⟩ : MethodName)) hown (mvT hZ (hw _ (List.mem_of_getElem? (i := 29) rfl))) (mvT hZ (hw _ (List.mem_of_getElem? (i := 30) rfl))) (mvT hZ (hw _ (List.mem_of_getElem? (i := 31) rfl))) (mvT hZ (hw _ (List.mem_of_getElem? (i := 32) rfl))) (by decide) (backOf (W := 0) (rm_fi8 l Z av0 hw [] b4 k4 h7 n0 (Nat.le_trans Z0 K7.1) f10 g_b4) hZ (hw _ (List.mem_of_getElem? (i := 32) rfl)) (hw _ (List.mem_of_getElem? (i := 31) rfl)) (by decide) (by decide)) (g := (mkF m 37 #[.val (.ref a0), .val (.int (4 : Int32)), .val (.int (3 : Int32))] [(.int (-1 : Int32)), (.ref b4)])) rfl (by rw [hml]; rfl) (argsL := [(.ref b4), (.int (-1 : Int32))]) (rest := []) (lenOf own_pd3 rfl) rfl (by show 2 * 0 + _ ≤ _; exact Nat.le_of_eq rfl) (hb hby d1_37) (fun _ _ => ⟨rfl, e8, (by decide : 1 + 0 ≤ _), (by decide : 8 + 0 ≤ _)⟩)
    refine own_cpsS H9 (c' := 1) (s' := 8) rfl rfl N7 ?_
    clear H9
    intro v9 T9 L9 L9' hQ9 N9f X9
    obtain ⟨rfl, N9q, Kc9, G9_0⟩ := hQ9
    have N9 := N9f N9q
    obtain ⟨h9, e9⟩ : ∃ z, T9.heap = z := ⟨_, rfl⟩
    rw [e9] at Kc9 G9_0
    have K9 : Keep h0 h9 [a0] := (K7).trans Kc9 (allS (P := fun x => x ∈ ([a0] : List Addr) ∨ h0.size ≤ x) (Or.inr sz_b4) (all0 (P := fun x => x ∈ ([a0] : List Addr) ∨ h0.size ≤ x)))
    show OGo p e below _ (T9.setTop (mkF m 40 #[.val (.ref a0), .val (.int (4 : Int32)), .val (.int (3 : Int32))] []))
    refine OGo.by (fun _ k => XS.aloadN X9.here hx rfl (hb hby d1_40) rfl rfl k) ?_
    show OGo p e below _ (T9.setTop (mkF m 41 #[.val (.ref a0), .val (.int (4 : Int32)), .val (.int (3 : Int32))] [(.ref a0)]))
    refine OGo.by (fun _ k => XS.iloadN X9.here hx rfl (hb hby d1_41) rfl k) ?_
    show OGo p e below _ (T9.setTop (mkF m 42 #[.val (.ref a0), .val (.int (4 : Int32)), .val (.int (3 : Int32))] [(.int (4 : Int32)), (.ref a0)]))
    obtain ⟨T11, h11, k11, X11, e11, E11, A11, st11⟩ := newP X9 hx hZ (hw _ (List.mem_of_getElem? (i := 0) rfl)) e9 (g := (mkF m 42 #[.val (.ref a0), .val (.int (4 : Int32)), .val (.int (3 : Int32))] [(.int (4 : Int32)), (.ref a0)])) rfl (hb hby d1_42) rfl (by decide : ¬ ((4 : Int32) < (0 : Int32))) (cap := 4) (by decide) (by decide) (by decide) (by decide)
    obtain ⟨b11, g11⟩ : ∃ z, z = h9.size := ⟨_, rfl⟩
    rw [← g11] at A11 st11
    have f12 : Exa Z h9 a0 "com/example/faces_into_crowds/facesintocrowds/Buckets" := ((f5.wr W7).keep Kc9)
    have ne_a0_b11 : a0 ≠ b11 := Nat.ne_of_lt (Nat.lt_of_lt_of_le f12.lt (Nat.le_of_eq g11.symm))
    have ne_b4_b11 : b4 ≠ b11 := Nat.ne_of_lt (Nat.lt_of_lt_of_le G9_0.lt (Nat.le_of_eq g11.symm))
    have g_b11 : n0 ≤ b11 := Nat.le_trans (Nat.le_trans Z0 K9.1) (Nat.le_of_eq g11.symm)
    have sz_b11 : h0.size ≤ b11 := Nat.le_trans K9.1 (Nat.le_of_eq g11.symm)
    refine OGo.by st11 ?_
    have K11 : Keep h0 h11 [a0] := (K9).ext E11
    have V11 : Arv Z h11 b11 k11 .int (4 : Int32) [(.int (0 : Int32)), (.int (0 : Int32)), (.int (0 : Int32)), (.int (0 : Int32))] (.int (0 : Int32)) := (Arv.new A11 (by decide)).pad (pad_rep [] (.int (0 : Int32)) 4)
    show OGo p e below _ (T11.setTop (mkF m 44 #[.val (.ref a0), .val (.int (4 : Int32)), .val (.int (3 : Int32))] [(.ref b11), (.ref a0)]))
    have f13 : Exa Z h11 a0 "com/example/faces_into_crowds/facesintocrowds/Buckets" := (f12.ext E11)
    have f14 : Fld Z h11 a0 "com/example/faces_into_crowds/facesintocrowds/Buckets" "mNext" "[I" .null := ((((F_mNext.ext E4).other W7 (Or.inr (slot_ne (Or.inr (hw _ (List.mem_of_getElem? (i := 34) rfl))) (Or.inr (hw _ (List.mem_of_getElem? (i := 28) rfl))) (by decide) (t := (.array .int)) (t' := (.array .int)) (by decide) (by decide)))).keep Kc9 (ninS ne_a0_b4 nin0)).ext E11)
    obtain ⟨T15, h15, X15, e15, W15, st15⟩ := putF X11 hx hZ hown (host := "") (Or.inl (hw _ (List.mem_of_getElem? (i := 33) rfl))) Via.refl e11 f14 f13 (Or.inr ⟨(hw _ (List.mem_of_getElem? (i := 34) rfl)), rfl, hnm⟩) (hw _ (List.mem_of_getElem? (i := 5) rfl)) (ty := (.array .int)) (by decide) rfl rfl (g := (mkF m 44 #[.val (.ref a0), .val (.int (4 : Int32)), .val (.int (3 : Int32))] [(.ref b11), (.ref a0)])) rfl rfl (hb hby d1_44)
    refine OGo.by st15 ?_
    have Fw15 := f14.same W15
    have N15 := Fr.snoc X15 N9 g_a0
    have K15 : Keep h0 h15 [a0] := (K11).wr W15 (Or.inl (List.mem_of_getElem? (i := 0) rfl))
    show OGo p e below _ (T15.setTop (mkF m 47 #[.val (.ref a0), .val (.int (4 : Int32)), .val (.int (3 : Int32))] []))
    refine OGo.by (fun _ k => XS.aloadN X15.here hx rfl (hb hby d1_47) rfl rfl k) ?_
    show OGo p e below _ (T15.setTop (mkF m 48 #[.val (.ref a0), .val (.int (4 : Int32)), .val (.int (3 : Int32))] [(.ref a0)]))
    refine OGo.by (fun _ k => XS.iloadN X15.here hx rfl (hb hby d1_48) rfl k) ?_
    show OGo p e below _ (T15.setTop (mkF m 49 #[.val (.ref a0), .val (.int (4 : Int32)), .val (.int (3 : Int32))] [(.int (4 : Int32)), (.ref a0)]))
    obtain ⟨T16, h16, k16, X16, e16, E16, A16, st16⟩ := newP X15 hx hZ (hw _ (List.mem_of_getElem? (i := 0) rfl)) e15 (g := (mkF m 49 #[.val (.ref a0), .val (.int (4 : Int32)), .val (.int (3 : Int32))] [(.int (4 : Int32)), (.ref a0)])) rfl (hb hby d1_49) rfl (by decide : ¬ ((4 : Int32) < (0 : Int32))) (cap := 4) (by decide) (by decide) (by decide) (by decide)
    obtain ⟨b16, g16⟩ : ∃ z, z = h15.size := ⟨_, rfl⟩
    rw [← g16] at A16 st16
    have f17 : Exa Z h15 a0 "com/example/faces_into_crowds/facesintocrowds/Buckets" := (f13.wr W15)
    have ne_a0_b16 : a0 ≠ b16 := Nat.ne_of_lt (Nat.lt_of_lt_of_le f17.lt (Nat.le_of_eq g16.symm))
    have f18 : Arv Z h15 b4 k4 .int (8 : Int32) [(.int (-1 : Int32)), (.int (-1 : Int32)), (.int (-1 : Int32)), (.int (-1 : Int32)), (.int (-1 : Int32)), (.int (-1 : Int32)), (.int (-1 : Int32)), (.int (-1 : Int32))] (.int (0 : Int32)) := ((G9_0.ext E11).other W15 (Ne.symm ne_a0_b4))
    have ne_b4_b16 : b4 ≠ b16 := Nat.ne_of_lt (Nat.lt_of_lt_of_le f18.lt (Nat.le_of_eq g16.symm))
    have f19 : Arv Z h15 b11 k11 .int (4 : Int32) [(.int (0 : Int32)), (.int (0 : Int32)), (.int (0 : Int32)), (.int (0 : Int32))] (.int (0 : Int32)) := (V11.other W15 (Ne.symm ne_a0_b11))
    have ne_b11_b16 : b11 ≠ b16 := Nat.ne_of_lt (Nat.lt_of_lt_of_le f19.lt (Nat.le_of_eq g16.symm))
    have g_b16 : n0 ≤ b16 := Nat.le_trans (Nat.le_trans Z0 K15.1) (Nat.le_of_eq g16.symm)
    have sz_b16 : h0.size ≤ b16 := Nat.le_trans K15.1 (Nat.le_of_eq g16.symm)
    refine OGo.by st16 ?_
    have K16 : Keep h0 h16 [a0] := (K15).ext E16
    have V16 : Arv Z h16 b16 k16 .int (4 : Int32) [(.int (0 : Int32)), (.int (0 : Int32)), (.int (0 : Int32)), (.int (0 : Int32))] (.int (0 : Int32)) := (Arv.new A16 (by decide)).pad (pad_rep [] (.int (0 : Int32)) 4)
    show OGo p e below _ (T16.setTop (mkF m 51 #[.val (.ref a0), .val (.int (4 : Int32)), .val (.int (3 : Int32))] [(.ref b16), (.ref a0)]))
    have f20 : Exa Z h16 a0 "com/example/faces_into_crowds/facesintocrowds/Buckets" := (f17.ext E16)
    have f21 : Fld Z h16 a0 "com/example/faces_into_crowds/facesintocrowds/Buckets" "mSlots" "[I" .null := ((((((F_mSlots.ext E4).other W7 (Or.inr (slot_ne (Or.inr (hw _ (List.mem_of_getElem? (i := 36) rfl))) (Or.inr (hw _ (List.mem_of_getElem? (i := 28) rfl))) (by decide) (t := (.array .int)) (t' := (.array .int)) (by decide) (by decide)))).keep Kc9 (ninS ne_a0_b4 nin0)).ext E11).other W15 (Or.inr (slot_ne (Or.inr (hw _ (List.mem_of_getElem? (i := 36) rfl))) (Or.inr (hw _ (List.mem_of_getElem? (i := 34) rfl))) (by decide) (t := (.array .int)) (t' := (.array .int)) (by decide) (by decide)))).ext E16)
    obtain ⟨T22, h22, X22, e22, W22, st22⟩ := putF X16 hx hZ hown (host := "") (Or.inl (hw _ (List.mem_of_getElem? (i := 35) rfl))) Via.refl e16 f21 f20 (Or.inr ⟨(hw _ (List.mem_of_getElem? (i := 36) rfl)), rfl, hnm⟩) (hw _ (List.mem_of_getElem? (i := 5) rfl)) (ty := (.array .int)) (by decide) rfl rfl (g := (mkF m 51 #[.val (.ref a0), .val (.int (4 : Int32)), .val (.int (3 : Int32))] [(.ref b16), (.ref a0)])) rfl rfl (hb hby d1_51)
    refine OGo.by st22 ?_
    have Fw22 := f21.same W22
    have N22 := Fr.snoc X22 N15 g_a0
    have K22 : Keep h0 h22 [a0] := (K16).wr W22 (Or.inl (List.mem_of_getElem? (i := 0) rfl))
    show OGo p e below _ (T22.setTop (mkF m 54 #[.val (.ref a0), .val (.int (4 : Int32)), .val (.int (3 : Int32))] []))
    refine OGo.by (fun _ k => XS.aloadN X22.here hx rfl (hb hby d1_54) rfl rfl k) ?_
    show OGo p e below _ (T22.setTop (mkF m 55 #[.val (.ref a0), .val (.int (4 : Int32)), .val (.int (3 : Int32))] [(.ref a0)]))
    refine OGo.by (fun _ k => XS.bipush X22.here hx rfl (hb hby d1_55) k) ?_
    show OGo p e below _ (T22.setTop (mkF m 57 #[.val (.ref a0), .val (.int (4 : Int32)), .val (.int (3 : Int32))] [(.int (64 : Int32)), (.ref a0)]))
    refine OGo.by (fun _ k => XS.iloadN X22.here hx rfl (hb hby d1_57) rfl k) ?_
    show OGo p e below _ (T22.setTop (mkF m 58 #[.val (.ref a0), .val (.int (4 : Int32)), .val (.int (3 : Int32))] [(.int (3 : Int32)), (.int (64 : Int32)), (.ref a0)]))
    refine OGo.by (fun _ k => XS.isub X22.here hx rfl (hb hby d1_58) rfl k) ?_
    show OGo p e below _ (T22.setTop (mkF m 59 #[.val (.ref a0), .val (.int (4 : Int32)), .val (.int (3 : Int32))] [(.int (61 : Int32)), (.ref a0)]))
    have f23 : Exa Z h22 a0 "com/example/faces_into_crowds/facesintocrowds/Buckets" := (f20.wr W22)
    have f24 : Fld Z h22 a0 "com/example/faces_into_crowds/facesintocrowds/Buckets" "mShift" "I" (.int (0 : Int32)) := (((((((F_mShift.ext E4).other W7 (Or.inr (slot_ne (Or.inr (hw _ (List.mem_of_getElem? (i := 38) rfl))) (Or.inr (hw _ (List.mem_of_getElem? (i := 28) rfl))) (by decide) (t := .int) (t' := (.array .int)) (by decide) (by decide)))).keep Kc9 (ninS ne_a0_b4 nin0)).ext E11).other W15 (Or.inr (slot_ne (Or.inr (hw _ (List.mem_of_getElem? (i := 38) rfl))) (Or.inr (hw _ (List.mem_of_getElem? (i := 34) rfl))) (by decide) (t := .int) (t' := (.array .int)) (by decide) (by decide)))).ext E16).other W22 (Or.inr (slot_ne (Or.inr (hw _ (List.mem_of_getElem? (i := 38) rfl))) (Or.inr (hw _ (List.mem_of_getElem? (i := 36) rfl))) (by decide) (t := .int) (t' := (.array .int)) (by decide) (by decide))))
    obtain ⟨T25, h25, X25, e25, W25, st25⟩ := putF X22 hx hZ hown (host := "") (Or.inl (hw _ (List.mem_of_getElem? (i := 37) rfl))) Via.refl e22 f24 f23 (Or.inr ⟨(hw _ (List.mem_of_getElem? (i := 38) rfl)), rfl, hnm⟩) (hw _ (List.mem_of_getElem? (i := 5) rfl)) (ty := .int) (by decide) rfl rfl (g := (mkF m 59 #[.val (.ref a0), .val (.int (4 : Int32)), .val (.int (3 : Int32))] [(.int (61 : Int32)), (.ref a0)])) rfl rfl (hb hby d1_59)
    refine OGo.by st25 ?_
    have Fw25 := f24.same W25
    have N25 := Fr.snoc X25 N22 g_a0
    have K25 : Keep h0 h25 [a0] := (K22).wr W25 (Or.inl (List.mem_of_getElem? (i := 0) rfl))
    show OGo p e below _ (T25.setTop (mkF m 62 #[.val (.ref a0), .val (.int (4 : Int32)), .val (.int (3 : Int32))] []))
    obtain ⟨fs, hr, hrun, hended, hW, hsame⟩ := X25.leave (v := none) (fun _ => rfl)
    refine OGo.ret (X25.returnOut hx Bd.returns (hb hby d1_62) hr) hrun hended ⟨_, _, rfl, ?_, ⟨_, rfl⟩, hW, hsame.mono (by decide) (by decide)⟩
    show Q_rm_in Z a0 p1 h0 n0 _ T25.heap _
    rw [e25]
    have f26 : Exa Z h25 a0 "com/example/faces_into_crowds/facesintocrowds/Buckets" := (f23.wr W25)
    have f27 : Fld Z h25 a0 "com/example/faces_into_crowds/facesintocrowds/Buckets" "mFirst" "[I" (.ref b4) := ((((((Fw7.keep Kc9 (ninS ne_a0_b4 nin0)).ext E11).other W15 (Or.inr (slot_ne (Or.inr (hw _ (List.mem_of_getElem? (i := 28) rfl))) (Or.inr (hw _ (List.mem_of_getElem? (i := 34) rfl))) (by decide) (t := (.array .int)) (t' := (.array .int)) (by decide) (by decide)))).ext E16).other W22 (Or.inr (slot_ne (Or.inr (hw _ (List.mem_of_getElem? (i := 28) rfl))) (Or.inr (hw _ (List.mem_of_getElem? (i := 36) rfl))) (by decide) (t := (.array .int)) (t' := (.array .int)) (by decide) (by decide)))).other W25 (Or.inr (slot_ne (Or.inr (hw _ (List.mem_of_getElem? (i := 28) rfl))) (Or.inr (hw _ (List.mem_of_getElem? (i := 38) rfl))) (by decide) (t := (.array .int)) (t' := .int) (by decide) (by decide))))
    have f28 : Fld Z h25 a0 "com/example/faces_into_crowds/facesintocrowds/Buckets" "mNext" "[I" (.ref b11) := (((Fw15.ext E16).other W22 (Or.inr (slot_ne (Or.inr (hw _ (List.mem_of_getElem? (i := 34) rfl))) (Or.inr (hw _ (List.mem_of_getElem? (i := 36) rfl))) (by decide) (t := (.array .int)) (t' := (.array .int)) (by decide) (by decide)))).other W25 (Or.inr (slot_ne (Or.inr (hw _ (List.mem_of_getElem? (i := 34) rfl))) (Or.inr (hw _ (List.mem_of_getElem? (i := 38) rfl))) (by decide) (t := (.array .int)) (t' := .int) (by decide) (by decide))))
    have f29 : Fld Z h25 a0 "com/example/faces_into_crowds/facesintocrowds/Buckets" "mSlots" "[I" (.ref b16) := (Fw22.other W25 (Or.inr (slot_ne (Or.inr (hw _ (List.mem_of_getElem? (i := 36) rfl))) (Or.inr (hw _ (List.mem_of_getElem? (i := 38) rfl))) (by decide) (t := (.array .int)) (t' := .int) (by decide) (by decide))))
    have f30 : Fld Z h25 a0 "com/example/faces_into_crowds/facesintocrowds/Buckets" "mUnits" "[I" .null := ((((((((F_mUnits.ext E4).other W7 (Or.inr (slot_ne (Or.inl (hw _ (List.mem_of_getElem? (i := 47) rfl))) (Or.inr (hw _ (List.mem_of_getElem? (i := 28) rfl))) (by decide) (t := (.array .int)) (t' := (.array .int)) (by decide) (by decide)))).keep Kc9 (ninS ne_a0_b4 nin0)).ext E11).other W15 (Or.inr (slot_ne (Or.inl (hw _ (List.mem_of_getElem? (i := 47) rfl))) (Or.inr (hw _ (List.mem_of_getElem? (i := 34) rfl))) (by decide) (t := (.array .int)) (t' := (.array .int)) (by decide) (by decide)))).ext E16).other W22 (Or.inr (slot_ne (Or.inl (hw _ (List.mem_of_getElem? (i := 47) rfl))) (Or.inr (hw _ (List.mem_of_getElem? (i := 36) rfl))) (by decide) (t := (.array .int)) (t' := (.array .int)) (by decide) (by decide)))).other W25 (Or.inr (slot_ne (Or.inl (hw _ (List.mem_of_getElem? (i := 47) rfl))) (Or.inr (hw _ (List.mem_of_getElem? (i := 38) rfl))) (by decide) (t := (.array .int)) (t' := .int) (by decide) (by decide))))
    have f31 : Fld Z h25 a0 "com/example/faces_into_crowds/facesintocrowds/Buckets" "mBuckets" "I" (.int (0 : Int32)) := ((((((((F_mBuckets.ext E4).other W7 (Or.inr (slot_ne (Or.inl (hw _ (List.mem_of_getElem? (i := 45) rfl))) (Or.inr (hw _ (List.mem_of_getElem? (i := 28) rfl))) (by decide) (t := .int) (t' := (.array .int)) (by decide) (by decide)))).keep Kc9 (ninS ne_a0_b4 nin0)).ext E11).other W15 (Or.inr (slot_ne (Or.inl (hw _ (List.mem_of_getElem? (i := 45) rfl))) (Or.inr (hw _ (List.mem_of_getElem? (i := 34) rfl))) (by decide) (t := .int) (t' := (.array .int)) (by decide) (by decide)))).ext E16).other W22 (Or.inr (slot_ne (Or.inl (hw _ (List.mem_of_getElem? (i := 45) rfl))) (Or.inr (hw _ (List.mem_of_getElem? (i := 36) rfl))) (by decide) (t := .int) (t' := (.array .int)) (by decide) (by decide)))).other W25 (Or.inr (slot_ne (Or.inl (hw _ (List.mem_of_getElem? (i := 45) rfl))) (Or.inr (hw _ (List.mem_of_getElem? (i := 38) rfl))) (by decide) (t := .int) (t' := .int) (by decide) (by decide))))
    have f32 : Arv Z h25 b4 k4 .int (8 : Int32) [(.int (-1 : Int32)), (.int (-1 : Int32)), (.int (-1 : Int32)), (.int (-1 : Int32)), (.int (-1 : Int32)), (.int (-1 : Int32)), (.int (-1 : Int32)), (.int (-1 : Int32))] (.int (0 : Int32)) := (((f18.ext E16).other W22 (Ne.symm ne_a0_b4)).other W25 (Ne.symm ne_a0_b4))
    have f33 : Arv Z h25 b11 k11 .int (4 : Int32) [(.int (0 : Int32)), (.int (0 : Int32)), (.int (0 : Int32)), (.int (0 : Int32))] (.int (0 : Int32)) := (((f19.ext E16).other W22 (Ne.symm ne_a0_b11)).other W25 (Ne.symm ne_a0_b11))
    have f34 : Arv Z h25 b16 k16 .int (4 : Int32) [(.int (0 : Int32)), (.int (0 : Int32)), (.int (0 : Int32)), (.int (0 : Int32))] (.int (0 : Int32)) := ((V16.other W22 (Ne.symm ne_a0_b16)).other W25 (Ne.symm ne_a0_b16))
    exact ⟨b4, b11, b16, k4, k11, k16, 8, 4, (8 : Int32), (61 : Int32), rfl, N25, K25, sz_b4, sz_b11, sz_b16, ne_b4_b11, ne_b4_b16, ne_b11_b16, ⟨Or.inl ⟨rfl, rfl, rfl⟩, by decide, by decide, hp1⟩, f26, f27, f28, f29, f30, Fw25, f31, f32, (by rw [hp1]; exact f33), (by rw [hp1]; exact f34)⟩
  · refine own_ogc (S' := s₁.setTop (mkF m 0 #[.val (.ref a0), .val (.int (5 : Int32)), .unset] [])) (by rw [hp1]) ?_
    refine OGo.by (fun _ k => XS.aloadN X0.here hx rfl (hb hby d1_0) rfl rfl k) ?_
    show OGo p e below _ (s₁.setTop (mkF m 1 #[.val (.ref a0), .val (.int (5 : Int32)), .unset] [(.ref a0)]))
    obtain ⟨T35, X35, e35, st35⟩ := initO X0 hx hZ hown (hw _ (List.mem_of_getElem? (i := 10) rfl)) (hw _ (List.mem_of_getElem? (i := 11) rfl)) (hw _ (List.mem_of_getElem? (i := 12) rfl)) e0 (g := (mkF m 1 #[.val (.ref a0), .val (.int (5 : Int32)), .unset] [(.ref a0)])) rfl (by rw [hml]; rfl) rfl (hb hby d1_1) (by decide) (W := 0) (by show 2 * 0 + _ ≤ _; exact Nat.le_of_eq rfl) (by decide)
    refine OGo.by st35 ?_
    show OGo p e below _ (T35.setTop (mkF m 4 #[.val (.ref a0), .val (.int (5 : Int32)), .unset] []))
    refine OGo.by (fun _ k => XS.bipush X35.here hx rfl (hb hby d1_4) k) ?_
    show OGo p e below _ (T35.setTop (mkF m 6 #[.val (.ref a0), .val (.int (5 : Int32)), .unset] [(.int (64 : Int32))]))
    refine OGo.by (fun _ k => XS.lconst X35.here hx rfl (hb hby d1_6) k) ?_
    show OGo p e below _ (T35.setTop (mkF m 7 #[.val (.ref a0), .val (.int (5 : Int32)), .unset] [(.long (1 : Int64)), (.int (64 : Int32))]))
    refine OGo.by (X35.ldc2Long hx hown (mvT hZ (hw _ (List.mem_of_getElem? (i := 13) rfl))) (g := (mkF m 7 #[.val (.ref a0), .val (.int (5 : Int32)), .unset] [(.long (1 : Int64)), (.int (64 : Int32))])) rfl (hb hby d1_7)) ?_
    show OGo p e below _ (T35.setTop (mkF m 10 #[.val (.ref a0), .val (.int (5 : Int32)), .unset] [(.long (2 : Int64)), (.long (1 : Int64)), (.int (64 : Int32))]))
    refine OGo.by (fun _ k => XS.iloadN X35.here hx rfl (hb hby d1_10) rfl k) ?_
    show OGo p e below _ (T35.setTop (mkF m 11 #[.val (.ref a0), .val (.int (5 : Int32)), .unset] [(.int (5 : Int32)), (.long (2 : Int64)), (.long (1 : Int64)), (.int (64 : Int32))]))
    refine OGo.by (fun _ k => XS.i2l X35.here hx rfl (hb hby d1_11) rfl k) ?_
    show OGo p e below _ (T35.setTop (mkF m 12 #[.val (.ref a0), .val (.int (5 : Int32)), .unset] [(.long ((5 : Int32).toInt64)), (.long (2 : Int64)), (.long (1 : Int64)), (.int (64 : Int32))]))
    rw [(by decide : ((5 : Int32).toInt64) = (5 : Int64))]
    show OGo p e below _ (T35.setTop (mkF m 12 #[.val (.ref a0), .val (.int (5 : Int32)), .unset] [(.long (5 : Int64)), (.long (2 : Int64)), (.long (1 : Int64)), (.int (64 : Int32))]))
    refine OGo.by (fun _ k => XS.lmul X35.here hx rfl (hb hby d1_12) rfl k) ?_
    show OGo p e below _ (T35.setTop (mkF m 13 #[.val (.ref a0), .val (.int (5 : Int32)), .unset] [(.long (10 : Int64)), (.long (1 : Int64)), (.int (64 : Int32))]))
    refine OGo.by (fun _ k => XS.lconst X35.here hx rfl (hb hby d1_13) k) ?_
    show OGo p e below _ (T35.setTop (mkF m 14 #[.val (.ref a0), .val (.int (5 : Int32)), .unset] [(.long (1 : Int64)), (.long (10 : Int64)), (.long (1 : Int64)), (.int (64 : Int32))]))
    refine OGo.by (fun _ k => XS.lsub X35.here hx rfl (hb hby d1_14) rfl k) ?_
    show OGo p e below _ (T35.setTop (mkF m 15 #[.val (.ref a0), .val (.int (5 : Int32)), .unset] [(.long (9 : Int64)), (.long (1 : Int64)), (.int (64 : Int32))]))
    have H36 := Jvm.LawKit.callS X35 hx (y := (⟨"java/lang/Math", "max", "(JJ)J"⟩ : MethodName)) hown (mvT hZ (hw _ (List.mem_of_getElem? (i := 14) rfl))) (mvT hZ (hw _ (List.mem_of_getElem? (i := 15) rfl))) (mvT hZ (hw _ (List.mem_of_getElem? (i := 16) rfl))) (mvT hZ (hw _ (List.mem_of_getElem? (i := 17) rfl))) (by decide) (backOf (W := 1) (rm_mx9 l Z av0 hw [] h0 n0 Z0) hZ (hw _ (List.mem_of_getElem? (i := 17) rfl)) (hw _ (List.mem_of_getElem? (i := 16) rfl)) (by decide) (by decide)) (g := (mkF m 15 #[.val (.ref a0), .val (.int (5 : Int32)), .unset] [(.long (9 : Int64)), (.long (1 : Int64)), (.int (64 : Int32))])) rfl (by rw [hml]; rfl) (argsL := [(.long (1 : Int64)), (.long (9 : Int64))]) (rest := [(.int (64 : Int32))]) (lenOf own_pd1 rfl) rfl (by show 2 * 0 + _ ≤ _; exact Nat.le_of_eq rfl) (hb hby d1_15) (fun _ _ => ⟨rfl, e35, (by decide : 0 + 0 ≤ _), (by decide : 0 + 0 ≤ _)⟩)
    refine own_cpsP H36 (c' := 0) (s' := 0) rfl rfl N0 (r := (some (.long (9 : Int64)))) (h1 := h0) (fun _ _ _ q => q) ?_
    clear H36
    intro T36 L36 X36 N36 e36
    show OGo p e below _ (T36.setTop (mkF m 18 #[.val (.ref a0), .val (.int (5 : Int32)), .unset] [(.long (9 : Int64)), (.int (64 : Int32))]))
    have H37 := Jvm.LawKit.callS X36 hx (y := (⟨"java/lang/Long", "numberOfLeadingZeros", "(J)I"⟩ : MethodName)) hown (mvT hZ (hw _ (List.mem_of_getElem? (i := 18) rfl))) (mvT hZ (hw _ (List.mem_of_getElem? (i := 19) rfl))) (mvT hZ (hw _ (List.mem_of_getElem? (i := 20) rfl))) (mvT hZ (hw _ (List.mem_of_getElem? (i := 21) rfl))) (by decide) (backOf (W := 1) (rm_nzl9 l Z av0 hw [] h0 n0 Z0) hZ (hw _ (List.mem_of_getElem? (i := 21) rfl)) (hw _ (List.mem_of_getElem? (i := 20) rfl)) (by decide) (by decide)) (g := (mkF m 18 #[.val (.ref a0), .val (.int (5 : Int32)), .unset] [(.long (9 : Int64)), (.int (64 : Int32))])) rfl (by rw [hml]; rfl) (argsL := [(.long (9 : Int64))]) (rest := [(.int (64 : Int32))]) (lenOf own_pd2 rfl) rfl (by show 2 * 0 + _ ≤ _; exact Nat.le_of_eq rfl) (hb hby d1_18) (fun _ _ => ⟨rfl, e36, (by decide : 0 + 0 ≤ _), (by decide : 0 + 0 ≤ _)⟩)
    refine own_cpsP H37 (c' := 0) (s' := 0) rfl rfl N36 (r := (some (.int (60 : Int32)))) (h1 := h0) (fun _ _ _ q => q) ?_
    clear H37
    intro T37 L37 X37 N37 e37
    show OGo p e below _ (T37.setTop (mkF m 21 #[.val (.ref a0), .val (.int (5 : Int32)), .unset] [(.int (60 : Int32)), (.int (64 : Int32))]))
    refine OGo.by (fun _ k => XS.isub X37.here hx rfl (hb hby d1_21) rfl k) ?_
    show OGo p e below _ (T37.setTop (mkF m 22 #[.val (.ref a0), .val (.int (5 : Int32)), .unset] [(.int (4 : Int32))]))
    refine OGo.by (fun _ k => XS.istoreN X37.here hx rfl (hb hby d1_22) rfl (l' := #[.val (.ref a0), .val (.int (5 : Int32)), .val (.int (4 : Int32))]) rfl k) ?_
    show OGo p e below _ (T37.setTop (mkF m 23 #[.val (.ref a0), .val (.int (5 : Int32)), .val (.int (4 : Int32))] []))
    refine OGo.by (fun _ k => XS.aloadN X37.here hx rfl (hb hby d1_23) rfl rfl k) ?_
    show OGo p e below _ (T37.setTop (mkF m 24 #[.val (.ref a0), .val (.int (5 : Int32)), .val (.int (4 : Int32))] [(.ref a0)]))
    refine OGo.by (fun _ k => XS.iconst X37.here hx rfl (hb hby d1_24) k) ?_
    show OGo p e below _ (T37.setTop (mkF m 25 #[.val (.ref a0), .val (.int (5 : Int32)), .val (.int (4 : Int32))] [(.int (1 : Int32)), (.ref a0)]))
    refine OGo.by (fun _ k => XS.iloadN X37.here hx rfl (hb hby d1_25) rfl k) ?_
    show OGo p e below _ (T37.setTop (mkF m 26 #[.val (.ref a0), .val (.int (5 : Int32)), .val (.int (4 : Int32))] [(.int (4 : Int32)), (.int (1 : Int32)), (.ref a0)]))
    refine OGo.by (fun _ k => XS.ishl X37.here hx rfl (hb hby d1_26) rfl k) ?_
    show OGo p e below _ (T37.setTop (mkF m 27 #[.val (.ref a0), .val (.int (5 : Int32)), .val (.int (4 : Int32))] [(.int ((1 : Int32) <<< ((4 : Int32) &&& 31))), (.ref a0)]))
    rw [(by decide : ((1 : Int32) <<< ((4 : Int32) &&& 31)) = (16 : Int32))]
    show OGo p e below _ (T37.setTop (mkF m 27 #[.val (.ref a0), .val (.int (5 : Int32)), .val (.int (4 : Int32))] [(.int (16 : Int32)), (.ref a0)]))
    obtain ⟨T38, h38, k38, X38, e38, E38, A38, st38⟩ := newP X37 hx hZ (hw _ (List.mem_of_getElem? (i := 0) rfl)) e37 (g := (mkF m 27 #[.val (.ref a0), .val (.int (5 : Int32)), .val (.int (4 : Int32))] [(.int (16 : Int32)), (.ref a0)])) rfl (hb hby d1_27) rfl (by decide : ¬ ((16 : Int32) < (0 : Int32))) (cap := 16) (by decide) (by decide) (by decide) (by decide)
    obtain ⟨b38, g38⟩ : ∃ z, z = h0.size := ⟨_, rfl⟩
    rw [← g38] at A38 st38
    have ne_a0_b38 : a0 ≠ b38 := Nat.ne_of_lt (Nat.lt_of_lt_of_le E0.lt (Nat.le_of_eq g38.symm))
    have g_b38 : n0 ≤ b38 := Nat.le_trans Z0 (Nat.le_of_eq g38.symm)
    have sz_b38 : h0.size ≤ b38 := Nat.le_trans (Nat.le_refl _) (Nat.le_of_eq g38.symm)
    refine OGo.by st38 ?_
    have K38 : Keep h0 h38 [a0] := ((Keep.refl h0 [a0])).ext E38
    have V38 : Arv Z h38 b38 k38 .int (16 : Int32) [(.int (0 : Int32)), (.int (0 : Int32)), (.int (0 : Int32)), (.int (0 : Int32)), (.int (0 : Int32)), (.int (0 : Int32)), (.int (0 : Int32)), (.int (0 : Int32)), (.int (0 : Int32)), (.int (0 : Int32)), (.int (0 : Int32)), (.int (0 : Int32)), (.int (0 : Int32)), (.int (0 : Int32)), (.int (0 : Int32)), (.int (0 : Int32))] (.int (0 : Int32)) := (Arv.new A38 (by decide)).pad (pad_rep [] (.int (0 : Int32)) 16)
    show OGo p e below _ (T38.setTop (mkF m 29 #[.val (.ref a0), .val (.int (5 : Int32)), .val (.int (4 : Int32))] [(.ref b38), (.ref a0)]))
    have f39 : Exa Z h38 a0 "com/example/faces_into_crowds/facesintocrowds/Buckets" := (E0.ext E38)
    have f40 : Fld Z h38 a0 "com/example/faces_into_crowds/facesintocrowds/Buckets" "mFirst" "[I" .null := (F_mFirst.ext E38)
    obtain ⟨T41, h41, X41, e41, W41, st41⟩ := putF X38 hx hZ hown (host := "") (Or.inl (hw _ (List.mem_of_getElem? (i := 27) rfl))) Via.refl e38 f40 f39 (Or.inr ⟨(hw _ (List.mem_of_getElem? (i := 28) rfl)), rfl, hnm⟩) (hw _ (List.mem_of_getElem? (i := 5) rfl)) (ty := (.array .int)) (by decide) rfl rfl (g := (mkF m 29 #[.val (.ref a0), .val (.int (5 : Int32)), .val (.int (4 : Int32))] [(.ref b38), (.ref a0)])) rfl rfl (hb hby d1_29)
    refine OGo.by st41 ?_
    have Fw41 := f40.same W41
    have N41 := Fr.snoc X41 N37 g_a0
    have K41 : Keep h0 h41 [a0] := (K38).wr W41 (Or.inl (List.mem_of_getElem? (i := 0) rfl))
    show OGo p e below _ (T41.setTop (mkF m 32 #[.val (.ref a0), .val (.int (5 : Int32)), .val (.int (4 : Int32))] []))
    refine OGo.by (fun _ k => XS.aloadN X41.here hx rfl (hb hby d1_32) rfl rfl k) ?_
    show OGo p e below _ (T41.setTop (mkF m 33 #[.val (.ref a0), .val (.int (5 : Int32)), .val (.int (4 : Int32))] [(.ref a0)]))
    obtain ⟨T42, X42, e42, st42⟩ := getF X41 hx hZ hown (host := "") (Or.inl (hw _ (List.mem_of_getElem? (i := 27) rfl))) Via.refl e41 Fw41 (g := (mkF m 33 #[.val (.ref a0), .val (.int (5 : Int32)), .val (.int (4 : Int32))] [(.ref a0)])) rfl rfl (hb hby d1_33)
    refine OGo.by st42 ?_
    show OGo p e below _ (T42.setTop (mkF m 36 #[.val (.ref a0), .val (.int (5 : Int32)), .val (.int (4 : Int32))] [(.ref b38)]))
    refine OGo.by (fun _ k => XS.iconst X42.here hx rfl (hb hby d1_36) k) ?_
    show OGo p e below _ (T42.setTop (mkF m 37 #[.val (.ref a0), .val (.int (5 : Int32)), .val (.int (4 : Int32))] [(.int (-1 : Int32)), (.ref b38)]))
    have f44 : Arv Z h41 b38 k38 .int (16 : Int32) [(.int (0 : Int32)), (.int (0 : Int32)), (.int (0 : Int32)), (.int (0 : Int32)), (.int (0 : Int32)), (.int (0 : Int32)), (.int (0 : Int32)), (.int (0 : Int32)), (.int (0 : Int32)), (.int (0 : Int32)), (.int (0 : Int32)), (.int (0 : Int32)), (.int (0 : Int32)), (.int (0 : Int32)), (.int (0 : Int32)), (.int (0 : Int32))] (.int (0 : Int32)) := (V38.other W41 (Ne.symm ne_a0_b38))
    have H43 := Jvm.LawKit.callS X42 hx (y := (⟨"java/util/Arrays", "fill", "([II)V"⟩ : MethodName)) hown (mvT hZ (hw _ (List.mem_of_getElem? (i := 29) rfl))) (mvT hZ (hw _ (List.mem_of_getElem? (i := 30) rfl))) (mvT hZ (hw _ (List.mem_of_getElem? (i := 31) rfl))) (mvT hZ (hw _ (List.mem_of_getElem? (i := 32) rfl))) (by decide) (backOf (W := 0) (rm_fi16 l Z av0 hw [] b38 k38 h41 n0 (Nat.le_trans Z0 K41.1) f44 g_b38) hZ (hw _ (List.mem_of_getElem? (i := 32) rfl)) (hw _ (List.mem_of_getElem? (i := 31) rfl)) (by decide) (by decide)) (g := (mkF m 37 #[.val (.ref a0), .val (.int (5 : Int32)), .val (.int (4 : Int32))] [(.int (-1 : Int32)), (.ref b38)])) rfl (by rw [hml]; rfl) (argsL := [(.ref b38), (.int (-1 : Int32))]) (rest := []) (lenOf own_pd3 rfl) rfl (by show 2 * 0 + _ ≤ _; exact Nat.le_of_eq rfl) (hb hby d1_37) (fun _ _ => ⟨rfl, e42, (by decide : 1 + 0 ≤ _), (by decide : 16 + 0 ≤ _)⟩)
    refine own_cpsS H43 (c' := 1) (s' := 16) rfl rfl N41 ?_
    clear H43
    intro v43 T43 L43 L43' hQ43 N43f X43
    obtain ⟨rfl, N43q, Kc43, G43_0⟩ := hQ43
    have N43 := N43f N43q
    obtain ⟨h43, e43⟩ : ∃ z, T43.heap = z := ⟨_, rfl⟩
    rw [e43] at Kc43 G43_0
    have K43 : Keep h0 h43 [a0] := (K41).trans Kc43 (allS (P := fun x => x ∈ ([a0] : List Addr) ∨ h0.size ≤ x) (Or.inr sz_b38) (all0 (P := fun x => x ∈ ([a0] : List Addr) ∨ h0.size ≤ x)))
    show OGo p e below _ (T43.setTop (mkF m 40 #[.val (.ref a0), .val (.int (5 : Int32)), .val (.int (4 : Int32))] []))
    refine OGo.by (fun _ k => XS.aloadN X43.here hx rfl (hb hby d1_40) rfl rfl k) ?_
    show OGo p e below _ (T43.setTop (mkF m 41 #[.val (.ref a0), .val (.int (5 : Int32)), .val (.int (4 : Int32))] [(.ref a0)]))
    refine OGo.by (fun _ k => XS.iloadN X43.here hx rfl (hb hby d1_41) rfl k) ?_
    show OGo p e below _ (T43.setTop (mkF m 42 #[.val (.ref a0), .val (.int (5 : Int32)), .val (.int (4 : Int32))] [(.int (5 : Int32)), (.ref a0)]))
    obtain ⟨T45, h45, k45, X45, e45, E45, A45, st45⟩ := newP X43 hx hZ (hw _ (List.mem_of_getElem? (i := 0) rfl)) e43 (g := (mkF m 42 #[.val (.ref a0), .val (.int (5 : Int32)), .val (.int (4 : Int32))] [(.int (5 : Int32)), (.ref a0)])) rfl (hb hby d1_42) rfl (by decide : ¬ ((5 : Int32) < (0 : Int32))) (cap := 5) (by decide) (by decide) (by decide) (by decide)
    obtain ⟨b45, g45⟩ : ∃ z, z = h43.size := ⟨_, rfl⟩
    rw [← g45] at A45 st45
    have f46 : Exa Z h43 a0 "com/example/faces_into_crowds/facesintocrowds/Buckets" := ((f39.wr W41).keep Kc43)
    have ne_a0_b45 : a0 ≠ b45 := Nat.ne_of_lt (Nat.lt_of_lt_of_le f46.lt (Nat.le_of_eq g45.symm))
    have ne_b38_b45 : b38 ≠ b45 := Nat.ne_of_lt (Nat.lt_of_lt_of_le G43_0.lt (Nat.le_of_eq g45.symm))
    have g_b45 : n0 ≤ b45 := Nat.le_trans (Nat.le_trans Z0 K43.1) (Nat.le_of_eq g45.symm)
    have sz_b45 : h0.size ≤ b45 := Nat.le_trans K43.1 (Nat.le_of_eq g45.symm)
    refine OGo.by st45 ?_
    have K45 : Keep h0 h45 [a0] := (K43).ext E45
    have V45 : Arv Z h45 b45 k45 .int (5 : Int32) [(.int (0 : Int32)), (.int (0 : Int32)), (.int (0 : Int32)), (.int (0 : Int32)), (.int (0 : Int32))] (.int (0 : Int32)) := (Arv.new A45 (by decide)).pad (pad_rep [] (.int (0 : Int32)) 5)
    show OGo p e below _ (T45.setTop (mkF m 44 #[.val (.ref a0), .val (.int (5 : Int32)), .val (.int (4 : Int32))] [(.ref b45), (.ref a0)]))
    have f47 : Exa Z h45 a0 "com/example/faces_into_crowds/facesintocrowds/Buckets" := (f46.ext E45)
    have f48 : Fld Z h45 a0 "com/example/faces_into_crowds/facesintocrowds/Buckets" "mNext" "[I" .null := ((((F_mNext.ext E38).other W41 (Or.inr (slot_ne (Or.inr (hw _ (List.mem_of_getElem? (i := 34) rfl))) (Or.inr (hw _ (List.mem_of_getElem? (i := 28) rfl))) (by decide) (t := (.array .int)) (t' := (.array .int)) (by decide) (by decide)))).keep Kc43 (ninS ne_a0_b38 nin0)).ext E45)
    obtain ⟨T49, h49, X49, e49, W49, st49⟩ := putF X45 hx hZ hown (host := "") (Or.inl (hw _ (List.mem_of_getElem? (i := 33) rfl))) Via.refl e45 f48 f47 (Or.inr ⟨(hw _ (List.mem_of_getElem? (i := 34) rfl)), rfl, hnm⟩) (hw _ (List.mem_of_getElem? (i := 5) rfl)) (ty := (.array .int)) (by decide) rfl rfl (g := (mkF m 44 #[.val (.ref a0), .val (.int (5 : Int32)), .val (.int (4 : Int32))] [(.ref b45), (.ref a0)])) rfl rfl (hb hby d1_44)
    refine OGo.by st49 ?_
    have Fw49 := f48.same W49
    have N49 := Fr.snoc X49 N43 g_a0
    have K49 : Keep h0 h49 [a0] := (K45).wr W49 (Or.inl (List.mem_of_getElem? (i := 0) rfl))
    show OGo p e below _ (T49.setTop (mkF m 47 #[.val (.ref a0), .val (.int (5 : Int32)), .val (.int (4 : Int32))] []))
    refine OGo.by (fun _ k => XS.aloadN X49.here hx rfl (hb hby d1_47) rfl rfl k) ?_
    show OGo p e below _ (T49.setTop (mkF m 48 #[.val (.ref a0), .val (.int (5 : Int32)), .val (.int (4 : Int32))] [(.ref a0)]))
    refine OGo.by (fun _ k => XS.iloadN X49.here hx rfl (hb hby d1_48) rfl k) ?_
    show OGo p e below _ (T49.setTop (mkF m 49 #[.val (.ref a0), .val (.int (5 : Int32)), .val (.int (4 : Int32))] [(.int (5 : Int32)), (.ref a0)]))
    obtain ⟨T50, h50, k50, X50, e50, E50, A50, st50⟩ := newP X49 hx hZ (hw _ (List.mem_of_getElem? (i := 0) rfl)) e49 (g := (mkF m 49 #[.val (.ref a0), .val (.int (5 : Int32)), .val (.int (4 : Int32))] [(.int (5 : Int32)), (.ref a0)])) rfl (hb hby d1_49) rfl (by decide : ¬ ((5 : Int32) < (0 : Int32))) (cap := 5) (by decide) (by decide) (by decide) (by decide)
    obtain ⟨b50, g50⟩ : ∃ z, z = h49.size := ⟨_, rfl⟩
    rw [← g50] at A50 st50
    have f51 : Exa Z h49 a0 "com/example/faces_into_crowds/facesintocrowds/Buckets" := (f47.wr W49)
    have ne_a0_b50 : a0 ≠ b50 := Nat.ne_of_lt (Nat.lt_of_lt_of_le f51.lt (Nat.le_of_eq g50.symm))
    have f52 : Arv Z h49 b38 k38 .int (16 : Int32) [(.int (-1 : Int32)), (.int (-1 : Int32)), (.int (-1 : Int32)), (.int (-1 : Int32)), (.int (-1 : Int32)), (.int (-1 : Int32)), (.int (-1 : Int32)), (.int (-1 : Int32)), (.int (-1 : Int32)), (.int (-1 : Int32)), (.int (-1 : Int32)), (.int (-1 : Int32)), (.int (-1 : Int32)), (.int (-1 : Int32)), (.int (-1 : Int32)), (.int (-1 : Int32))] (.int (0 : Int32)) := ((G43_0.ext E45).other W49 (Ne.symm ne_a0_b38))
    have ne_b38_b50 : b38 ≠ b50 := Nat.ne_of_lt (Nat.lt_of_lt_of_le f52.lt (Nat.le_of_eq g50.symm))
    have f53 : Arv Z h49 b45 k45 .int (5 : Int32) [(.int (0 : Int32)), (.int (0 : Int32)), (.int (0 : Int32)), (.int (0 : Int32)), (.int (0 : Int32))] (.int (0 : Int32)) := (V45.other W49 (Ne.symm ne_a0_b45))
    have ne_b45_b50 : b45 ≠ b50 := Nat.ne_of_lt (Nat.lt_of_lt_of_le f53.lt (Nat.le_of_eq g50.symm))
    have g_b50 : n0 ≤ b50 := Nat.le_trans (Nat.le_trans Z0 K49.1) (Nat.le_of_eq g50.symm)
    have sz_b50 : h0.size ≤ b50 := Nat.le_trans K49.1 (Nat.le_of_eq g50.symm)
    refine OGo.by st50 ?_
    have K50 : Keep h0 h50 [a0] := (K49).ext E50
    have V50 : Arv Z h50 b50 k50 .int (5 : Int32) [(.int (0 : Int32)), (.int (0 : Int32)), (.int (0 : Int32)), (.int (0 : Int32)), (.int (0 : Int32))] (.int (0 : Int32)) := (Arv.new A50 (by decide)).pad (pad_rep [] (.int (0 : Int32)) 5)
    show OGo p e below _ (T50.setTop (mkF m 51 #[.val (.ref a0), .val (.int (5 : Int32)), .val (.int (4 : Int32))] [(.ref b50), (.ref a0)]))
    have f54 : Exa Z h50 a0 "com/example/faces_into_crowds/facesintocrowds/Buckets" := (f51.ext E50)
    have f55 : Fld Z h50 a0 "com/example/faces_into_crowds/facesintocrowds/Buckets" "mSlots" "[I" .null := ((((((F_mSlots.ext E38).other W41 (Or.inr (slot_ne (Or.inr (hw _ (List.mem_of_getElem? (i := 36) rfl))) (Or.inr (hw _ (List.mem_of_getElem? (i := 28) rfl))) (by decide) (t := (.array .int)) (t' := (.array .int)) (by decide) (by decide)))).keep Kc43 (ninS ne_a0_b38 nin0)).ext E45).other W49 (Or.inr (slot_ne (Or.inr (hw _ (List.mem_of_getElem? (i := 36) rfl))) (Or.inr (hw _ (List.mem_of_getElem? (i := 34) rfl))) (by decide) (t := (.array .int)) (t' := (.array .int)) (by decide) (by decide)))).ext E50)
    obtain ⟨T56, h56, X56, e56, W56, st56⟩ := putF X50 hx hZ hown (host := "") (Or.inl (hw _ (List.mem_of_getElem? (i := 35) rfl))) Via.refl e50 f55 f54 (Or.inr ⟨(hw _ (List.mem_of_getElem? (i := 36) rfl)), rfl, hnm⟩) (hw _ (List.mem_of_getElem? (i := 5) rfl)) (ty := (.array .int)) (by decide) rfl rfl (g := (mkF m 51 #[.val (.ref a0), .val (.int (5 : Int32)), .val (.int (4 : Int32))] [(.ref b50), (.ref a0)])) rfl rfl (hb hby d1_51)
    refine OGo.by st56 ?_
    have Fw56 := f55.same W56
    have N56 := Fr.snoc X56 N49 g_a0
    have K56 : Keep h0 h56 [a0] := (K50).wr W56 (Or.inl (List.mem_of_getElem? (i := 0) rfl))
    show OGo p e below _ (T56.setTop (mkF m 54 #[.val (.ref a0), .val (.int (5 : Int32)), .val (.int (4 : Int32))] []))
    refine OGo.by (fun _ k => XS.aloadN X56.here hx rfl (hb hby d1_54) rfl rfl k) ?_
    show OGo p e below _ (T56.setTop (mkF m 55 #[.val (.ref a0), .val (.int (5 : Int32)), .val (.int (4 : Int32))] [(.ref a0)]))
    refine OGo.by (fun _ k => XS.bipush X56.here hx rfl (hb hby d1_55) k) ?_
    show OGo p e below _ (T56.setTop (mkF m 57 #[.val (.ref a0), .val (.int (5 : Int32)), .val (.int (4 : Int32))] [(.int (64 : Int32)), (.ref a0)]))
    refine OGo.by (fun _ k => XS.iloadN X56.here hx rfl (hb hby d1_57) rfl k) ?_
    show OGo p e below _ (T56.setTop (mkF m 58 #[.val (.ref a0), .val (.int (5 : Int32)), .val (.int (4 : Int32))] [(.int (4 : Int32)), (.int (64 : Int32)), (.ref a0)]))
    refine OGo.by (fun _ k => XS.isub X56.here hx rfl (hb hby d1_58) rfl k) ?_
    show OGo p e below _ (T56.setTop (mkF m 59 #[.val (.ref a0), .val (.int (5 : Int32)), .val (.int (4 : Int32))] [(.int (60 : Int32)), (.ref a0)]))
    have f57 : Exa Z h56 a0 "com/example/faces_into_crowds/facesintocrowds/Buckets" := (f54.wr W56)
    have f58 : Fld Z h56 a0 "com/example/faces_into_crowds/facesintocrowds/Buckets" "mShift" "I" (.int (0 : Int32)) := (((((((F_mShift.ext E38).other W41 (Or.inr (slot_ne (Or.inr (hw _ (List.mem_of_getElem? (i := 38) rfl))) (Or.inr (hw _ (List.mem_of_getElem? (i := 28) rfl))) (by decide) (t := .int) (t' := (.array .int)) (by decide) (by decide)))).keep Kc43 (ninS ne_a0_b38 nin0)).ext E45).other W49 (Or.inr (slot_ne (Or.inr (hw _ (List.mem_of_getElem? (i := 38) rfl))) (Or.inr (hw _ (List.mem_of_getElem? (i := 34) rfl))) (by decide) (t := .int) (t' := (.array .int)) (by decide) (by decide)))).ext E50).other W56 (Or.inr (slot_ne (Or.inr (hw _ (List.mem_of_getElem? (i := 38) rfl))) (Or.inr (hw _ (List.mem_of_getElem? (i := 36) rfl))) (by decide) (t := .int) (t' := (.array .int)) (by decide) (by decide))))
    obtain ⟨T59, h59, X59, e59, W59, st59⟩ := putF X56 hx hZ hown (host := "") (Or.inl (hw _ (List.mem_of_getElem? (i := 37) rfl))) Via.refl e56 f58 f57 (Or.inr ⟨(hw _ (List.mem_of_getElem? (i := 38) rfl)), rfl, hnm⟩) (hw _ (List.mem_of_getElem? (i := 5) rfl)) (ty := .int) (by decide) rfl rfl (g := (mkF m 59 #[.val (.ref a0), .val (.int (5 : Int32)), .val (.int (4 : Int32))] [(.int (60 : Int32)), (.ref a0)])) rfl rfl (hb hby d1_59)
    refine OGo.by st59 ?_
    have Fw59 := f58.same W59
    have N59 := Fr.snoc X59 N56 g_a0
    have K59 : Keep h0 h59 [a0] := (K56).wr W59 (Or.inl (List.mem_of_getElem? (i := 0) rfl))
    show OGo p e below _ (T59.setTop (mkF m 62 #[.val (.ref a0), .val (.int (5 : Int32)), .val (.int (4 : Int32))] []))
    obtain ⟨fs, hr, hrun, hended, hW, hsame⟩ := X59.leave (v := none) (fun _ => rfl)
    refine OGo.ret (X59.returnOut hx Bd.returns (hb hby d1_62) hr) hrun hended ⟨_, _, rfl, ?_, ⟨_, rfl⟩, hW, hsame.mono (by decide) (by decide)⟩
    show Q_rm_in Z a0 p1 h0 n0 _ T59.heap _
    rw [e59]
    have f60 : Exa Z h59 a0 "com/example/faces_into_crowds/facesintocrowds/Buckets" := (f57.wr W59)
    have f61 : Fld Z h59 a0 "com/example/faces_into_crowds/facesintocrowds/Buckets" "mFirst" "[I" (.ref b38) := ((((((Fw41.keep Kc43 (ninS ne_a0_b38 nin0)).ext E45).other W49 (Or.inr (slot_ne (Or.inr (hw _ (List.mem_of_getElem? (i := 28) rfl))) (Or.inr (hw _ (List.mem_of_getElem? (i := 34) rfl))) (by decide) (t := (.array .int)) (t' := (.array .int)) (by decide) (by decide)))).ext E50).other W56 (Or.inr (slot_ne (Or.inr (hw _ (List.mem_of_getElem? (i := 28) rfl))) (Or.inr (hw _ (List.mem_of_getElem? (i := 36) rfl))) (by decide) (t := (.array .int)) (t' := (.array .int)) (by decide) (by decide)))).other W59 (Or.inr (slot_ne (Or.inr (hw _ (List.mem_of_getElem? (i := 28) rfl))) (Or.inr (hw _ (List.mem_of_getElem? (i := 38) rfl))) (by decide) (t := (.array .int)) (t' := .int) (by decide) (by decide))))
    have f62 : Fld Z h59 a0 "com/example/faces_into_crowds/facesintocrowds/Buckets" "mNext" "[I" (.ref b45) := (((Fw49.ext E50).other W56 (Or.inr (slot_ne (Or.inr (hw _ (List.mem_of_getElem? (i := 34) rfl))) (Or.inr (hw _ (List.mem_of_getElem? (i := 36) rfl))) (by decide) (t := (.array .int)) (t' := (.array .int)) (by decide) (by decide)))).other W59 (Or.inr (slot_ne (Or.inr (hw _ (List.mem_of_getElem? (i := 34) rfl))) (Or.inr (hw _ (List.mem_of_getElem? (i := 38) rfl))) (by decide) (t := (.array .int)) (t' := .int) (by decide) (by decide))))
    have f63 : Fld Z h59 a0 "com/example/faces_into_crowds/facesintocrowds/Buckets" "mSlots" "[I" (.ref b50) := (Fw56.other W59 (Or.inr (slot_ne (Or.inr (hw _ (List.mem_of_getElem? (i := 36) rfl))) (Or.inr (hw _ (List.mem_of_getElem? (i := 38) rfl))) (by decide) (t := (.array .int)) (t' := .int) (by decide) (by decide))))
    have f64 : Fld Z h59 a0 "com/example/faces_into_crowds/facesintocrowds/Buckets" "mUnits" "[I" .null := ((((((((F_mUnits.ext E38).other W41 (Or.inr (slot_ne (Or.inl (hw _ (List.mem_of_getElem? (i := 47) rfl))) (Or.inr (hw _ (List.mem_of_getElem? (i := 28) rfl))) (by decide) (t := (.array .int)) (t' := (.array .int)) (by decide) (by decide)))).keep Kc43 (ninS ne_a0_b38 nin0)).ext E45).other W49 (Or.inr (slot_ne (Or.inl (hw _ (List.mem_of_getElem? (i := 47) rfl))) (Or.inr (hw _ (List.mem_of_getElem? (i := 34) rfl))) (by decide) (t := (.array .int)) (t' := (.array .int)) (by decide) (by decide)))).ext E50).other W56 (Or.inr (slot_ne (Or.inl (hw _ (List.mem_of_getElem? (i := 47) rfl))) (Or.inr (hw _ (List.mem_of_getElem? (i := 36) rfl))) (by decide) (t := (.array .int)) (t' := (.array .int)) (by decide) (by decide)))).other W59 (Or.inr (slot_ne (Or.inl (hw _ (List.mem_of_getElem? (i := 47) rfl))) (Or.inr (hw _ (List.mem_of_getElem? (i := 38) rfl))) (by decide) (t := (.array .int)) (t' := .int) (by decide) (by decide))))
    have f65 : Fld Z h59 a0 "com/example/faces_into_crowds/facesintocrowds/Buckets" "mBuckets" "I" (.int (0 : Int32)) := ((((((((F_mBuckets.ext E38).other W41 (Or.inr (slot_ne (Or.inl (hw _ (List.mem_of_getElem? (i := 45) rfl))) (Or.inr (hw _ (List.mem_of_getElem? (i := 28) rfl))) (by decide) (t := .int) (t' := (.array .int)) (by decide) (by decide)))).keep Kc43 (ninS ne_a0_b38 nin0)).ext E45).other W49 (Or.inr (slot_ne (Or.inl (hw _ (List.mem_of_getElem? (i := 45) rfl))) (Or.inr (hw _ (List.mem_of_getElem? (i := 34) rfl))) (by decide) (t := .int) (t' := (.array .int)) (by decide) (by decide)))).ext E50).other W56 (Or.inr (slot_ne (Or.inl (hw _ (List.mem_of_getElem? (i := 45) rfl))) (Or.inr (hw _ (List.mem_of_getElem? (i := 36) rfl))) (by decide) (t := .int) (t' := (.array .int)) (by decide) (by decide)))).other W59 (Or.inr (slot_ne (Or.inl (hw _ (List.mem_of_getElem? (i := 45) rfl))) (Or.inr (hw _ (List.mem_of_getElem? (i := 38) rfl))) (by decide) (t := .int) (t' := .int) (by decide) (by decide))))
    have f66 : Arv Z h59 b38 k38 .int (16 : Int32) [(.int (-1 : Int32)), (.int (-1 : Int32)), (.int (-1 : Int32)), (.int (-1 : Int32)), (.int (-1 : Int32)), (.int (-1 : Int32)), (.int (-1 : Int32)), (.int (-1 : Int32)), (.int (-1 : Int32)), (.int (-1 : Int32)), (.int (-1 : Int32)), (.int (-1 : Int32)), (.int (-1 : Int32)), (.int (-1 : Int32)), (.int (-1 : Int32)), (.int (-1 : Int32))] (.int (0 : Int32)) := (((f52.ext E50).other W56 (Ne.symm ne_a0_b38)).other W59 (Ne.symm ne_a0_b38))
    have f67 : Arv Z h59 b45 k45 .int (5 : Int32) [(.int (0 : Int32)), (.int (0 : Int32)), (.int (0 : Int32)), (.int (0 : Int32)), (.int (0 : Int32))] (.int (0 : Int32)) := (((f53.ext E50).other W56 (Ne.symm ne_a0_b45)).other W59 (Ne.symm ne_a0_b45))
    have f68 : Arv Z h59 b50 k50 .int (5 : Int32) [(.int (0 : Int32)), (.int (0 : Int32)), (.int (0 : Int32)), (.int (0 : Int32)), (.int (0 : Int32))] (.int (0 : Int32)) := ((V50.other W56 (Ne.symm ne_a0_b50)).other W59 (Ne.symm ne_a0_b50))
    exact ⟨b38, b45, b50, k38, k45, k50, 16, 5, (16 : Int32), (60 : Int32), rfl, N59, K59, sz_b38, sz_b45, sz_b50, ne_b38_b45, ne_b38_b50, ne_b45_b50, ⟨Or.inr ⟨rfl, rfl, rfl⟩, by decide, by decide, hp1⟩, f60, f61, f62, f63, f64, Fw59, f65, f66, (by rw [hp1]; exact f67), (by rw [hp1]; exact f68)⟩
  · refine own_ogc (S' := s₁.setTop (mkF m 0 #[.val (.ref a0), .val (.int (6 : Int32)), .unset] [])) (by rw [hp1]) ?_
    refine OGo.by (fun _ k => XS.aloadN X0.here hx rfl (hb hby d1_0) rfl rfl k) ?_
    show OGo p e below _ (s₁.setTop (mkF m 1 #[.val (.ref a0), .val (.int (6 : Int32)), .unset] [(.ref a0)]))
    obtain ⟨T69, X69, e69, st69⟩ := initO X0 hx hZ hown (hw _ (List.mem_of_getElem? (i := 10) rfl)) (hw _ (List.mem_of_getElem? (i := 11) rfl)) (hw _ (List.mem_of_getElem? (i := 12) rfl)) e0 (g := (mkF m 1 #[.val (.ref a0), .val (.int (6 : Int32)), .unset] [(.ref a0)])) rfl (by rw [hml]; rfl) rfl (hb hby d1_1) (by decide) (W := 0) (by show 2 * 0 + _ ≤ _; exact Nat.le_of_eq rfl) (by decide)
    refine OGo.by st69 ?_
    show OGo p e below _ (T69.setTop (mkF m 4 #[.val (.ref a0), .val (.int (6 : Int32)), .unset] []))
    refine OGo.by (fun _ k => XS.bipush X69.here hx rfl (hb hby d1_4) k) ?_
    show OGo p e below _ (T69.setTop (mkF m 6 #[.val (.ref a0), .val (.int (6 : Int32)), .unset] [(.int (64 : Int32))]))
    refine OGo.by (fun _ k => XS.lconst X69.here hx rfl (hb hby d1_6) k) ?_
    show OGo p e below _ (T69.setTop (mkF m 7 #[.val (.ref a0), .val (.int (6 : Int32)), .unset] [(.long (1 : Int64)), (.int (64 : Int32))]))
    refine OGo.by (X69.ldc2Long hx hown (mvT hZ (hw _ (List.mem_of_getElem? (i := 13) rfl))) (g := (mkF m 7 #[.val (.ref a0), .val (.int (6 : Int32)), .unset] [(.long (1 : Int64)), (.int (64 : Int32))])) rfl (hb hby d1_7)) ?_
    show OGo p e below _ (T69.setTop (mkF m 10 #[.val (.ref a0), .val (.int (6 : Int32)), .unset] [(.long (2 : Int64)), (.long (1 : Int64)), (.int (64 : Int32))]))
    refine OGo.by (fun _ k => XS.iloadN X69.here hx rfl (hb hby d1_10) rfl k) ?_
    show OGo p e below _ (T69.setTop (mkF m 11 #[.val (.ref a0), .val (.int (6 : Int32)), .unset] [(.int (6 : Int32)), (.long (2 : Int64)), (.long (1 : Int64)), (.int (64 : Int32))]))
    refine OGo.by (fun _ k => XS.i2l X69.here hx rfl (hb hby d1_11) rfl k) ?_
    show OGo p e below _ (T69.setTop (mkF m 12 #[.val (.ref a0), .val (.int (6 : Int32)), .unset] [(.long ((6 : Int32).toInt64)), (.long (2 : Int64)), (.long (1 : Int64)), (.int (64 : Int32))]))
    rw [(by decide : ((6 : Int32).toInt64) = (6 : Int64))]
    show OGo p e below _ (T69.setTop (mkF m 12 #[.val (.ref a0), .val (.int (6 : Int32)), .unset] [(.long (6 : Int64)), (.long (2 : Int64)), (.long (1 : Int64)), (.int (64 : Int32))]))
    refine OGo.by (fun _ k => XS.lmul X69.here hx rfl (hb hby d1_12) rfl k) ?_
    show OGo p e below _ (T69.setTop (mkF m 13 #[.val (.ref a0), .val (.int (6 : Int32)), .unset] [(.long (12 : Int64)), (.long (1 : Int64)), (.int (64 : Int32))]))
    refine OGo.by (fun _ k => XS.lconst X69.here hx rfl (hb hby d1_13) k) ?_
    show OGo p e below _ (T69.setTop (mkF m 14 #[.val (.ref a0), .val (.int (6 : Int32)), .unset] [(.long (1 : Int64)), (.long (12 : Int64)), (.long (1 : Int64)), (.int (64 : Int32))]))
    refine OGo.by (fun _ k => XS.lsub X69.here hx rfl (hb hby d1_14) rfl k) ?_
    show OGo p e below _ (T69.setTop (mkF m 15 #[.val (.ref a0), .val (.int (6 : Int32)), .unset] [(.long (11 : Int64)), (.long (1 : Int64)), (.int (64 : Int32))]))
    have H70 := Jvm.LawKit.callS X69 hx (y := (⟨"java/lang/Math", "max", "(JJ)J"⟩ : MethodName)) hown (mvT hZ (hw _ (List.mem_of_getElem? (i := 14) rfl))) (mvT hZ (hw _ (List.mem_of_getElem? (i := 15) rfl))) (mvT hZ (hw _ (List.mem_of_getElem? (i := 16) rfl))) (mvT hZ (hw _ (List.mem_of_getElem? (i := 17) rfl))) (by decide) (backOf (W := 1) (rm_mx11 l Z av0 hw [] h0 n0 Z0) hZ (hw _ (List.mem_of_getElem? (i := 17) rfl)) (hw _ (List.mem_of_getElem? (i := 16) rfl)) (by decide) (by decide)) (g := (mkF m 15 #[.val (.ref a0), .val (.int (6 : Int32)), .unset] [(.long (11 : Int64)), (.long (1 : Int64)), (.int (64 : Int32))])) rfl (by rw [hml]; rfl) (argsL := [(.long (1 : Int64)), (.long (11 : Int64))]) (rest := [(.int (64 : Int32))]) (lenOf own_pd1 rfl) rfl (by show 2 * 0 + _ ≤ _; exact Nat.le_of_eq rfl) (hb hby d1_15) (fun _ _ => ⟨rfl, e69, (by decide : 0 + 0 ≤ _), (by decide : 0 + 0 ≤ _)⟩)
    refine own_cpsP H70 (c' := 0) (s' := 0) rfl rfl N0 (r := (some (.long (11 : Int64)))) (h1 := h0) (fun _ _ _ q => q) ?_
    clear H70
    intro T70 L70 X70 N70 e70
    show OGo p e below _ (T70.setTop (mkF m 18 #[.val (.ref a0), .val (.int (6 : Int32)), .unset] [(.long (11 : Int64)), (.int (64 : Int32))]))
    have H71 := Jvm.LawKit.callS X70 hx (y := (⟨"java/lang/Long", "numberOfLeadingZeros", "(J)I"⟩ : MethodName)) hown (mvT hZ (hw _ (List.mem_of_getElem? (i := 18) rfl))) (mvT hZ (hw _ (List.mem_of_getElem? (i := 19) rfl))) (mvT hZ (hw _ (List.mem_of_getElem? (i := 20) rfl))) (mvT hZ (hw _ (List.mem_of_getElem? (i := 21) rfl))) (by decide) (backOf (W := 1) (rm_nzl11 l Z av0 hw [] h0 n0 Z0) hZ (hw _ (List.mem_of_getElem? (i := 21) rfl)) (hw _ (List.mem_of_getElem? (i := 20) rfl)) (by decide) (by decide)) (g := (mkF m 18 #[.val (.ref a0), .val (.int (6 : Int32)), .unset] [(.long (11 : Int64)), (.int (64 : Int32))])) rfl (by rw [hml]; rfl) (argsL := [(.long (11 : Int64))]) (rest := [(.int (64 : Int32))]) (lenOf own_pd2 rfl) rfl (by show 2 * 0 + _ ≤ _; exact Nat.le_of_eq rfl) (hb hby d1_18) (fun _ _ => ⟨rfl, e70, (by decide : 0 + 0 ≤ _), (by decide : 0 + 0 ≤ _)⟩)
    refine own_cpsP H71 (c' := 0) (s' := 0) rfl rfl N70 (r := (some (.int (60 : Int32)))) (h1 := h0) (fun _ _ _ q => q) ?_
    clear H71
    intro T71 L71 X71 N71 e71
    show OGo p e below _ (T71.setTop (mkF m 21 #[.val (.ref a0), .val (.int (6 : Int32)), .unset] [(.int (60 : Int32)), (.int (64 : Int32))]))
    refine OGo.by (fun _ k => XS.isub X71.here hx rfl (hb hby d1_21) rfl k) ?_
    show OGo p e below _ (T71.setTop (mkF m 22 #[.val (.ref a0), .val (.int (6 : Int32)), .unset] [(.int (4 : Int32))]))
    refine OGo.by (fun _ k => XS.istoreN X71.here hx rfl (hb hby d1_22) rfl (l' := #[.val (.ref a0), .val (.int (6 : Int32)), .val (.int (4 : Int32))]) rfl k) ?_
    show OGo p e below _ (T71.setTop (mkF m 23 #[.val (.ref a0), .val (.int (6 : Int32)), .val (.int (4 : Int32))] []))
    refine OGo.by (fun _ k => XS.aloadN X71.here hx rfl (hb hby d1_23) rfl rfl k) ?_
    show OGo p e below _ (T71.setTop (mkF m 24 #[.val (.ref a0), .val (.int (6 : Int32)), .val (.int (4 : Int32))] [(.ref a0)]))
    refine OGo.by (fun _ k => XS.iconst X71.here hx rfl (hb hby d1_24) k) ?_
    show OGo p e below _ (T71.setTop (mkF m 25 #[.val (.ref a0), .val (.int (6 : Int32)), .val (.int (4 : Int32))] [(.int (1 : Int32)), (.ref a0)]))
    refine OGo.by (fun _ k => XS.iloadN X71.here hx rfl (hb hby d1_25) rfl k) ?_
    show OGo p e below _ (T71.setTop (mkF m 26 #[.val (.ref a0), .val (.int (6 : Int32)), .val (.int (4 : Int32))] [(.int (4 : Int32)), (.int (1 : Int32)), (.ref a0)]))
    refine OGo.by (fun _ k => XS.ishl X71.here hx rfl (hb hby d1_26) rfl k) ?_
    show OGo p e below _ (T71.setTop (mkF m 27 #[.val (.ref a0), .val (.int (6 : Int32)), .val (.int (4 : Int32))] [(.int ((1 : Int32) <<< ((4 : Int32) &&& 31))), (.ref a0)]))
    rw [(by decide : ((1 : Int32) <<< ((4 : Int32) &&& 31)) = (16 : Int32))]
    show OGo p e below _ (T71.setTop (mkF m 27 #[.val (.ref a0), .val (.int (6 : Int32)), .val (.int (4 : Int32))] [(.int (16 : Int32)), (.ref a0)]))
    obtain ⟨T72, h72, k72, X72, e72, E72, A72, st72⟩ := newP X71 hx hZ (hw _ (List.mem_of_getElem? (i := 0) rfl)) e71 (g := (mkF m 27 #[.val (.ref a0), .val (.int (6 : Int32)), .val (.int (4 : Int32))] [(.int (16 : Int32)), (.ref a0)])) rfl (hb hby d1_27) rfl (by decide : ¬ ((16 : Int32) < (0 : Int32))) (cap := 16) (by decide) (by decide) (by decide) (by decide)
    obtain ⟨b72, g72⟩ : ∃ z, z = h0.size := ⟨_, rfl⟩
    rw [← g72] at A72 st72
    have ne_a0_b72 : a0 ≠ b72 := Nat.ne_of_lt (Nat.lt_of_lt_of_le E0.lt (Nat.le_of_eq g72.symm))
    have g_b72 : n0 ≤ b72 := Nat.le_trans Z0 (Nat.le_of_eq g72.symm)
    have sz_b72 : h0.size ≤ b72 := Nat.le_trans (Nat.le_refl _) (Nat.le_of_eq g72.symm)
    refine OGo.by st72 ?_
    have K72 : Keep h0 h72 [a0] := ((Keep.refl h0 [a0])).ext E72
    have V72 : Arv Z h72 b72 k72 .int (16 : Int32) [(.int (0 : Int32)), (.int (0 : Int32)), (.int (0 : Int32)), (.int (0 : Int32)), (.int (0 : Int32)), (.int (0 : Int32)), (.int (0 : Int32)), (.int (0 : Int32)), (.int (0 : Int32)), (.int (0 : Int32)), (.int (0 : Int32)), (.int (0 : Int32)), (.int (0 : Int32)), (.int (0 : Int32)), (.int (0 : Int32)), (.int (0 : Int32))] (.int (0 : Int32)) := (Arv.new A72 (by decide)).pad (pad_rep [] (.int (0 : Int32)) 16)
    show OGo p e below _ (T72.setTop (mkF m 29 #[.val (.ref a0), .val (.int (6 : Int32)), .val (.int (4 : Int32))] [(.ref b72), (.ref a0)]))
    have f73 : Exa Z h72 a0 "com/example/faces_into_crowds/facesintocrowds/Buckets" := (E0.ext E72)
    have f74 : Fld Z h72 a0 "com/example/faces_into_crowds/facesintocrowds/Buckets" "mFirst" "[I" .null := (F_mFirst.ext E72)
    obtain ⟨T75, h75, X75, e75, W75, st75⟩ := putF X72 hx hZ hown (host := "") (Or.inl (hw _ (List.mem_of_getElem? (i := 27) rfl))) Via.refl e72 f74 f73 (Or.inr ⟨(hw _ (List.mem_of_getElem? (i := 28) rfl)), rfl, hnm⟩) (hw _ (List.mem_of_getElem? (i := 5) rfl)) (ty := (.array .int)) (by decide) rfl rfl (g := (mkF m 29 #[.val (.ref a0), .val (.int (6 : Int32)), .val (.int (4 : Int32))] [(.ref b72), (.ref a0)])) rfl rfl (hb hby d1_29)
    refine OGo.by st75 ?_
    have Fw75 := f74.same W75
    have N75 := Fr.snoc X75 N71 g_a0
    have K75 : Keep h0 h75 [a0] := (K72).wr W75 (Or.inl (List.mem_of_getElem? (i := 0) rfl))
    show OGo p e below _ (T75.setTop (mkF m 32 #[.val (.ref a0), .val (.int (6 : Int32)), .val (.int (4 : Int32))] []))
    refine OGo.by (fun _ k => XS.aloadN X75.here hx rfl (hb hby d1_32) rfl rfl k) ?_
    show OGo p e below _ (T75.setTop (mkF m 33 #[.val (.ref a0), .val (.int (6 : Int32)), .val (.int (4 : Int32))] [(.ref a0)]))
    obtain ⟨T76, X76, e76, st76⟩ := getF X75 hx hZ hown (host := "") (Or.inl (hw _ (List.mem_of_getElem? (i := 27) rfl))) Via.refl e75 Fw75 (g := (mkF m 33 #[.val (.ref a0), .val (.int (6 : Int32)), .val (.int (4 : Int32))] [(.ref a0)])) rfl rfl (hb hby d1_33)
    refine OGo.by st76 ?_
    show OGo p e below _ (T76.setTop (mkF m 36 #[.val (.ref a0), .val (.int (6 : Int32)), .val (.int (4 : Int32))] [(.ref b72)]))
    refine OGo.by (fun _ k => XS.iconst X76.here hx rfl (hb hby d1_36) k) ?_
    show OGo p e below _ (T76.setTop (mkF m 37 #[.val (.ref a0), .val (.int (6 : Int32)), .val (.int (4 : Int32))] [(.int (-1 : Int32)), (.ref b72)]))
    have f78 : Arv Z h75 b72 k72 .int (16 : Int32) [(.int (0 : Int32)), (.int (0 : Int32)), (.int (0 : Int32)), (.int (0 : Int32)), (.int (0 : Int32)), (.int (0 : Int32)), (.int (0 : Int32)), (.int (0 : Int32)), (.int (0 : Int32)), (.int (0 : Int32)), (.int (0 : Int32)), (.int (0 : Int32)), (.int (0 : Int32)), (.int (0 : Int32)), (.int (0 : Int32)), (.int (0 : Int32))] (.int (0 : Int32)) := (V72.other W75 (Ne.symm ne_a0_b72))
    have H77 := Jvm.LawKit.callS X76 hx (y := (⟨"java/util/Arrays", "fill", "([II)V"⟩ : MethodName)) hown (mvT hZ (hw _ (List.mem_of_getElem? (i := 29) rfl))) (mvT hZ (hw _ (List.mem_of_getElem? (i := 30) rfl))) (mvT hZ (hw _ (List.mem_of_getElem? (i := 31) rfl))) (mvT hZ (hw _ (List.mem_of_getElem? (i := 32) rfl))) (by decide) (backOf (W := 0) (rm_fi16 l Z av0 hw [] b72 k72 h75 n0 (Nat.le_trans Z0 K75.1) f78 g_b72) hZ (hw _ (List.mem_of_getElem? (i := 32) rfl)) (hw _ (List.mem_of_getElem? (i := 31) rfl)) (by decide) (by decide)) (g := (mkF m 37 #[.val (.ref a0), .val (.int (6 : Int32)), .val (.int (4 : Int32))] [(.int (-1 : Int32)), (.ref b72)])) rfl (by rw [hml]; rfl) (argsL := [(.ref b72), (.int (-1 : Int32))]) (rest := []) (lenOf own_pd3 rfl) rfl (by show 2 * 0 + _ ≤ _; exact Nat.le_of_eq rfl) (hb hby d1_37) (fun _ _ => ⟨rfl, e76, (by decide : 1 + 0 ≤ _), (by decide : 16 + 0 ≤ _)⟩)
    refine own_cpsS H77 (c' := 1) (s' := 16) rfl rfl N75 ?_
    clear H77
    intro v77 T77 L77 L77' hQ77 N77f X77
    obtain ⟨rfl, N77q, Kc77, G77_0⟩ := hQ77
    have N77 := N77f N77q
    obtain ⟨h77, e77⟩ : ∃ z, T77.heap = z := ⟨_, rfl⟩
    rw [e77] at Kc77 G77_0
    have K77 : Keep h0 h77 [a0] := (K75).trans Kc77 (allS (P := fun x => x ∈ ([a0] : List Addr) ∨ h0.size ≤ x) (Or.inr sz_b72) (all0 (P := fun x => x ∈ ([a0] : List Addr) ∨ h0.size ≤ x)))
    show OGo p e below _ (T77.setTop (mkF m 40 #[.val (.ref a0), .val (.int (6 : Int32)), .val (.int (4 : Int32))] []))
    refine OGo.by (fun _ k => XS.aloadN X77.here hx rfl (hb hby d1_40) rfl rfl k) ?_
    show OGo p e below _ (T77.setTop (mkF m 41 #[.val (.ref a0), .val (.int (6 : Int32)), .val (.int (4 : Int32))] [(.ref a0)]))
    refine OGo.by (fun _ k => XS.iloadN X77.here hx rfl (hb hby d1_41) rfl k) ?_
    show OGo p e below _ (T77.setTop (mkF m 42 #[.val (.ref a0), .val (.int (6 : Int32)), .val (.int (4 : Int32))] [(.int (6 : Int32)), (.ref a0)]))
    obtain ⟨T79, h79, k79, X79, e79, E79, A79, st79⟩ := newP X77 hx hZ (hw _ (List.mem_of_getElem? (i := 0) rfl)) e77 (g := (mkF m 42 #[.val (.ref a0), .val (.int (6 : Int32)), .val (.int (4 : Int32))] [(.int (6 : Int32)), (.ref a0)])) rfl (hb hby d1_42) rfl (by decide : ¬ ((6 : Int32) < (0 : Int32))) (cap := 6) (by decide) (by decide) (by decide) (by decide)
    obtain ⟨b79, g79⟩ : ∃ z, z = h77.size := ⟨_, rfl⟩
    rw [← g79] at A79 st79
    have f80 : Exa Z h77 a0 "com/example/faces_into_crowds/facesintocrowds/Buckets" := ((f73.wr W75).keep Kc77)
    have ne_a0_b79 : a0 ≠ b79 := Nat.ne_of_lt (Nat.lt_of_lt_of_le f80.lt (Nat.le_of_eq g79.symm))
    have ne_b72_b79 : b72 ≠ b79 := Nat.ne_of_lt (Nat.lt_of_lt_of_le G77_0.lt (Nat.le_of_eq g79.symm))
    have g_b79 : n0 ≤ b79 := Nat.le_trans (Nat.le_trans Z0 K77.1) (Nat.le_of_eq g79.symm)
    have sz_b79 : h0.size ≤ b79 := Nat.le_trans K77.1 (Nat.le_of_eq g79.symm)
    refine OGo.by st79 ?_
    have K79 : Keep h0 h79 [a0] := (K77).ext E79
    have V79 : Arv Z h79 b79 k79 .int (6 : Int32) [(.int (0 : Int32)), (.int (0 : Int32)), (.int (0 : Int32)), (.int (0 : Int32)), (.int (0 : Int32)), (.int (0 : Int32))] (.int (0 : Int32)) := (Arv.new A79 (by decide)).pad (pad_rep [] (.int (0 : Int32)) 6)
    show OGo p e below _ (T79.setTop (mkF m 44 #[.val (.ref a0), .val (.int (6 : Int32)), .val (.int (4 : Int32))] [(.ref b79), (.ref a0)]))
    have f81 : Exa Z h79 a0 "com/example/faces_into_crowds/facesintocrowds/Buckets" := (f80.ext E79)
    have f82 : Fld Z h79 a0 "com/example/faces_into_crowds/facesintocrowds/Buckets" "mNext" "[I" .null := ((((F_mNext.ext E72).other W75 (Or.inr (slot_ne (Or.inr (hw _ (List.mem_of_getElem? (i := 34) rfl))) (Or.inr (hw _ (List.mem_of_getElem? (i := 28) rfl))) (by decide) (t := (.array .int)) (t' := (.array .int)) (by decide) (by decide)))).keep Kc77 (ninS ne_a0_b72 nin0)).ext E79)
    obtain ⟨T83, h83, X83, e83, W83, st83⟩ := putF X79 hx hZ hown (host := "") (Or.inl (hw _ (List.mem_of_getElem? (i := 33) rfl))) Via.refl e79 f82 f81 (Or.inr ⟨(hw _ (List.mem_of_getElem? (i := 34) rfl)), rfl, hnm⟩) (hw _ (List.mem_of_getElem? (i := 5) rfl)) (ty := (.array .int)) (by decide) rfl rfl (g := (mkF m 44 #[.val (.ref a0), .val (.int (6 : Int32)), .val (.int (4 : Int32))] [(.ref b79), (.ref a0)])) rfl rfl (hb hby d1_44)
    refine OGo.by st83 ?_
    have Fw83 := f82.same W83
    have N83 := Fr.snoc X83 N77 g_a0
    have K83 : Keep h0 h83 [a0] := (K79).wr W83 (Or.inl (List.mem_of_getElem? (i := 0) rfl))
    show OGo p e below _ (T83.setTop (mkF m 47 #[.val (.ref a0), .val (.int (6 : Int32)), .val (.int (4 : Int32))] []))
    refine OGo.by (fun _ k => XS.aloadN X83.here hx rfl (hb hby d1_47) rfl rfl k) ?_
    show OGo p e below _ (T83.setTop (mkF m 48 #[.val (.ref a0), .val (.int (6 : Int32)), .val (.int (4 : Int32))] [(.ref a0)]))
    refine OGo.by (fun _ k => XS.iloadN X83.here hx rfl (hb hby d1_48) rfl k) ?_
    show OGo p e below _ (T83.setTop (mkF m 49 #[.val (.ref a0), .val (.int (6 : Int32)), .val (.int (4 : Int32))] [(.int (6 : Int32)), (.ref a0)]))
    obtain ⟨T84, h84, k84, X84, e84, E84, A84, st84⟩ := newP X83 hx hZ (hw _ (List.mem_of_getElem? (i := 0) rfl)) e83 (g := (mkF m 49 #[.val (.ref a0), .val (.int (6 : Int32)), .val (.int (4 : Int32))] [(.int (6 : Int32)), (.ref a0)])) rfl (hb hby d1_49) rfl (by decide : ¬ ((6 : Int32) < (0 : Int32))) (cap := 6) (by decide) (by decide) (by decide) (by decide)
    obtain ⟨b84, g84⟩ : ∃ z, z = h83.size := ⟨_, rfl⟩
    rw [← g84] at A84 st84
    have f85 : Exa Z h83 a0 "com/example/faces_into_crowds/facesintocrowds/Buckets" := (f81.wr W83)
    have ne_a0_b84 : a0 ≠ b84 := Nat.ne_of_lt (Nat.lt_of_lt_of_le f85.lt (Nat.le_of_eq g84.symm))
    have f86 : Arv Z h83 b72 k72 .int (16 : Int32) [(.int (-1 : Int32)), (.int (-1 : Int32)), (.int (-1 : Int32)), (.int (-1 : Int32)), (.int (-1 : Int32)), (.int (-1 : Int32)), (.int (-1 : Int32)), (.int (-1 : Int32)), (.int (-1 : Int32)), (.int (-1 : Int32)), (.int (-1 : Int32)), (.int (-1 : Int32)), (.int (-1 : Int32)), (.int (-1 : Int32)), (.int (-1 : Int32)), (.int (-1 : Int32))] (.int (0 : Int32)) := ((G77_0.ext E79).other W83 (Ne.symm ne_a0_b72))
    have ne_b72_b84 : b72 ≠ b84 := Nat.ne_of_lt (Nat.lt_of_lt_of_le f86.lt (Nat.le_of_eq g84.symm))
    have f87 : Arv Z h83 b79 k79 .int (6 : Int32) [(.int (0 : Int32)), (.int (0 : Int32)), (.int (0 : Int32)), (.int (0 : Int32)), (.int (0 : Int32)), (.int (0 : Int32))] (.int (0 : Int32)) := (V79.other W83 (Ne.symm ne_a0_b79))
    have ne_b79_b84 : b79 ≠ b84 := Nat.ne_of_lt (Nat.lt_of_lt_of_le f87.lt (Nat.le_of_eq g84.symm))
    have g_b84 : n0 ≤ b84 := Nat.le_trans (Nat.le_trans Z0 K83.1) (Nat.le_of_eq g84.symm)
    have sz_b84 : h0.size ≤ b84 := Nat.le_trans K83.1 (Nat.le_of_eq g84.symm)
    refine OGo.by st84 ?_
    have K84 : Keep h0 h84 [a0] := (K83).ext E84
    have V84 : Arv Z h84 b84 k84 .int (6 : Int32) [(.int (0 : Int32)), (.int (0 : Int32)), (.int (0 : Int32)), (.int (0 : Int32)), (.int (0 : Int32)), (.int (0 : Int32))] (.int (0 : Int32)) := (Arv.new A84 (by decide)).pad (pad_rep [] (.int (0 : Int32)) 6)
    show OGo p e below _ (T84.setTop (mkF m 51 #[.val (.ref a0), .val (.int (6 : Int32)), .val (.int (4 : Int32))] [(.ref b84), (.ref a0)]))
    have f88 : Exa Z h84 a0 "com/example/faces_into_crowds/facesintocrowds/Buckets" := (f85.ext E84)
    have f89 : Fld Z h84 a0 "com/example/faces_into_crowds/facesintocrowds/Buckets" "mSlots" "[I" .null := ((((((F_mSlots.ext E72).other W75 (Or.inr (slot_ne (Or.inr (hw _ (List.mem_of_getElem? (i := 36) rfl))) (Or.inr (hw _ (List.mem_of_getElem? (i := 28) rfl))) (by decide) (t := (.array .int)) (t' := (.array .int)) (by decide) (by decide)))).keep Kc77 (ninS ne_a0_b72 nin0)).ext E79).other W83 (Or.inr (slot_ne (Or.inr (hw _ (List.mem_of_getElem? (i := 36) rfl))) (Or.inr (hw _ (List.mem_of_getElem? (i := 34) rfl))) (by decide) (t := (.array .int)) (t' := (.array .int)) (by decide) (by decide)))).ext E84)
    obtain ⟨T90, h90, X90, e90, W90, st90⟩ := putF X84 hx hZ hown (host := "") (Or.inl (hw _ (List.mem_of_getElem? (i := 35) rfl))) Via.refl e84 f89 f88 (Or.inr ⟨(hw _ (List.mem_of_getElem? (i := 36) rfl)), rfl, hnm⟩) (hw _ (List.mem_of_getElem? (i := 5) rfl)) (ty := (.array .int)) (by decide) rfl rfl (g := (mkF m 51 #[.val (.ref a0), .val (.int (6 : Int32)), .val (.int (4 : Int32))] [(.ref b84), (.ref a0)])) rfl rfl (hb hby d1_51)
    refine OGo.by st90 ?_
    have Fw90 := f89.same W90
    have N90 := Fr.snoc X90 N83 g_a0
    have K90 : Keep h0 h90 [a0] := (K84).wr W90 (Or.inl (List.mem_of_getElem? (i := 0) rfl))
    show OGo p e below _ (T90.setTop (mkF m 54 #[.val (.ref a0), .val (.int (6 : Int32)), .val (.int (4 : Int32))] []))
    refine OGo.by (fun _ k => XS.aloadN X90.here hx rfl (hb hby d1_54) rfl rfl k) ?_
    show OGo p e below _ (T90.setTop (mkF m 55 #[.val (.ref a0), .val (.int (6 : Int32)), .val (.int (4 : Int32))] [(.ref a0)]))
    refine OGo.by (fun _ k => XS.bipush X90.here hx rfl (hb hby d1_55) k) ?_
    show OGo p e below _ (T90.setTop (mkF m 57 #[.val (.ref a0), .val (.int (6 : Int32)), .val (.int (4 : Int32))] [(.int (64 : Int32)), (.ref a0)]))
    refine OGo.by (fun _ k => XS.iloadN X90.here hx rfl (hb hby d1_57) rfl k) ?_
    show OGo p e below _ (T90.setTop (mkF m 58 #[.val (.ref a0), .val (.int (6 : Int32)), .val (.int (4 : Int32))] [(.int (4 : Int32)), (.int (64 : Int32)), (.ref a0)]))
    refine OGo.by (fun _ k => XS.isub X90.here hx rfl (hb hby d1_58) rfl k) ?_
    show OGo p e below _ (T90.setTop (mkF m 59 #[.val (.ref a0), .val (.int (6 : Int32)), .val (.int (4 : Int32))] [(.int (60 : Int32)), (.ref a0)]))
    have f91 : Exa Z h90 a0 "com/example/faces_into_crowds/facesintocrowds/Buckets" := (f88.wr W90)
    have f92 : Fld Z h90 a0 "com/example/faces_into_crowds/facesintocrowds/Buckets" "mShift" "I" (.int (0 : Int32)) := (((((((F_mShift.ext E72).other W75 (Or.inr (slot_ne (Or.inr (hw _ (List.mem_of_getElem? (i := 38) rfl))) (Or.inr (hw _ (List.mem_of_getElem? (i := 28) rfl))) (by decide) (t := .int) (t' := (.array .int)) (by decide) (by decide)))).keep Kc77 (ninS ne_a0_b72 nin0)).ext E79).other W83 (Or.inr (slot_ne (Or.inr (hw _ (List.mem_of_getElem? (i := 38) rfl))) (Or.inr (hw _ (List.mem_of_getElem? (i := 34) rfl))) (by decide) (t := .int) (t' := (.array .int)) (by decide) (by decide)))).ext E84).other W90 (Or.inr (slot_ne (Or.inr (hw _ (List.mem_of_getElem? (i := 38) rfl))) (Or.inr (hw _ (List.mem_of_getElem? (i := 36) rfl))) (by decide) (t := .int) (t' := (.array .int)) (by decide) (by decide))))
    obtain ⟨T93, h93, X93, e93, W93, st93⟩ := putF X90 hx hZ hown (host := "") (Or.inl (hw _ (List.mem_of_getElem? (i := 37) rfl))) Via.refl e90 f92 f91 (Or.inr ⟨(hw _ (List.mem_of_getElem? (i := 38) rfl)), rfl, hnm⟩) (hw _ (List.mem_of_getElem? (i := 5) rfl)) (ty := .int) (by decide) rfl rfl (g := (mkF m 59 #[.val (.ref a0), .val (.int (6 : Int32)), .val (.int (4 : Int32))] [(.int (60 : Int32)), (.ref a0)])) rfl rfl (hb hby d1_59)
    refine OGo.by st93 ?_
    have Fw93 := f92.same W93
    have N93 := Fr.snoc X93 N90 g_a0
    have K93 : Keep h0 h93 [a0] := (K90).wr W93 (Or.inl (List.mem_of_getElem? (i := 0) rfl))
    show OGo p e below _ (T93.setTop (mkF m 62 #[.val (.ref a0), .val (.int (6 : Int32)), .val (.int (4 : Int32))] []))
    obtain ⟨fs, hr, hrun, hended, hW, hsame⟩ := X93.leave (v := none) (fun _ => rfl)
    refine OGo.ret (X93.returnOut hx Bd.returns (hb hby d1_62) hr) hrun hended ⟨_, _, rfl, ?_, ⟨_, rfl⟩, hW, hsame.mono (by decide) (by decide)⟩
    show Q_rm_in Z a0 p1 h0 n0 _ T93.heap _
    rw [e93]
    have f94 : Exa Z h93 a0 "com/example/faces_into_crowds/facesintocrowds/Buckets" := (f91.wr W93)
    have f95 : Fld Z h93 a0 "com/example/faces_into_crowds/facesintocrowds/Buckets" "mFirst" "[I" (.ref b72) := ((((((Fw75.keep Kc77 (ninS ne_a0_b72 nin0)).ext E79).other W83 (Or.inr (slot_ne (Or.inr (hw _ (List.mem_of_getElem? (i := 28) rfl))) (Or.inr (hw _ (List.mem_of_getElem? (i := 34) rfl))) (by decide) (t := (.array .int)) (t' := (.array .int)) (by decide) (by decide)))).ext E84).other W90 (Or.inr (slot_ne (Or.inr (hw _ (List.mem_of_getElem? (i := 28) rfl))) (Or.inr (hw _ (List.mem_of_getElem? (i := 36) rfl))) (by decide) (t := (.array .int)) (t' := (.array .int)) (by decide) (by decide)))).other W93 (Or.inr (slot_ne (Or.inr (hw _ (List.mem_of_getElem? (i := 28) rfl))) (Or.inr (hw _ (List.mem_of_getElem? (i := 38) rfl))) (by decide) (t := (.array .int)) (t' := .int) (by decide) (by decide))))
    have f96 : Fld Z h93 a0 "com/example/faces_into_crowds/facesintocrowds/Buckets" "mNext" "[I" (.ref b79) := (((Fw83.ext E84).other W90 (Or.inr (slot_ne (Or.inr (hw _ (List.mem_of_getElem? (i := 34) rfl))) (Or.inr (hw _ (List.mem_of_getElem? (i := 36) rfl))) (by decide) (t := (.array .int)) (t' := (.array .int)) (by decide) (by decide)))).other W93 (Or.inr (slot_ne (Or.inr (hw _ (List.mem_of_getElem? (i := 34) rfl))) (Or.inr (hw _ (List.mem_of_getElem? (i := 38) rfl))) (by decide) (t := (.array .int)) (t' := .int) (by decide) (by decide))))
    have f97 : Fld Z h93 a0 "com/example/faces_into_crowds/facesintocrowds/Buckets" "mSlots" "[I" (.ref b84) := (Fw90.other W93 (Or.inr (slot_ne (Or.inr (hw _ (List.mem_of_getElem? (i := 36) rfl))) (Or.inr (hw _ (List.mem_of_getElem? (i := 38) rfl))) (by decide) (t := (.array .int)) (t' := .int) (by decide) (by decide))))
    have f98 : Fld Z h93 a0 "com/example/faces_into_crowds/facesintocrowds/Buckets" "mUnits" "[I" .null := ((((((((F_mUnits.ext E72).other W75 (Or.inr (slot_ne (Or.inl (hw _ (List.mem_of_getElem? (i := 47) rfl))) (Or.inr (hw _ (List.mem_of_getElem? (i := 28) rfl))) (by decide) (t := (.array .int)) (t' := (.array .int)) (by decide) (by decide)))).keep Kc77 (ninS ne_a0_b72 nin0)).ext E79).other W83 (Or.inr (slot_ne (Or.inl (hw _ (List.mem_of_getElem? (i := 47) rfl))) (Or.inr (hw _ (List.mem_of_getElem? (i := 34) rfl))) (by decide) (t := (.array .int)) (t' := (.array .int)) (by decide) (by decide)))).ext E84).other W90 (Or.inr (slot_ne (Or.inl (hw _ (List.mem_of_getElem? (i := 47) rfl))) (Or.inr (hw _ (List.mem_of_getElem? (i := 36) rfl))) (by decide) (t := (.array .int)) (t' := (.array .int)) (by decide) (by decide)))).other W93 (Or.inr (slot_ne (Or.inl (hw _ (List.mem_of_getElem? (i := 47) rfl))) (Or.inr (hw _ (List.mem_of_getElem? (i := 38) rfl))) (by decide) (t := (.array .int)) (t' := .int) (by decide) (by decide))))
    have f99 : Fld Z h93 a0 "com/example/faces_into_crowds/facesintocrowds/Buckets" "mBuckets" "I" (.int (0 : Int32)) := ((((((((F_mBuckets.ext E72).other W75 (Or.inr (slot_ne (Or.inl (hw _ (List.mem_of_getElem? (i := 45) rfl))) (Or.inr (hw _ (List.mem_of_getElem? (i := 28) rfl))) (by decide) (t := .int) (t' := (.array .int)) (by decide) (by decide)))).keep Kc77 (ninS ne_a0_b72 nin0)).ext E79).other W83 (Or.inr (slot_ne (Or.inl (hw _ (List.mem_of_getElem? (i := 45) rfl))) (Or.inr (hw _ (List.mem_of_getElem? (i := 34) rfl))) (by decide) (t := .int) (t' := (.array .int)) (by decide) (by decide)))).ext E84).other W90 (Or.inr (slot_ne (Or.inl (hw _ (List.mem_of_getElem? (i := 45) rfl))) (Or.inr (hw _ (List.mem_of_getElem? (i := 36) rfl))) (by decide) (t := .int) (t' := (.array .int)) (by decide) (by decide)))).other W93 (Or.inr (slot_ne (Or.inl (hw _ (List.mem_of_getElem? (i := 45) rfl))) (Or.inr (hw _ (List.mem_of_getElem? (i := 38) rfl))) (by decide) (t := .int) (t' := .int) (by decide) (by decide))))
    have f100 : Arv Z h93 b72 k72 .int (16 : Int32) [(.int (-1 : Int32)), (.int (-1 : Int32)), (.int (-1 : Int32)), (.int (-1 : Int32)), (.int (-1 : Int32)), (.int (-1 : Int32)), (.int (-1 : Int32)), (.int (-1 : Int32)), (.int (-1 : Int32)), (.int (-1 : Int32)), (.int (-1 : Int32)), (.int (-1 : Int32)), (.int (-1 : Int32)), (.int (-1 : Int32)), (.int (-1 : Int32)), (.int (-1 : Int32))] (.int (0 : Int32)) := (((f86.ext E84).other W90 (Ne.symm ne_a0_b72)).other W93 (Ne.symm ne_a0_b72))
    have f101 : Arv Z h93 b79 k79 .int (6 : Int32) [(.int (0 : Int32)), (.int (0 : Int32)), (.int (0 : Int32)), (.int (0 : Int32)), (.int (0 : Int32)), (.int (0 : Int32))] (.int (0 : Int32)) := (((f87.ext E84).other W90 (Ne.symm ne_a0_b79)).other W93 (Ne.symm ne_a0_b79))
    have f102 : Arv Z h93 b84 k84 .int (6 : Int32) [(.int (0 : Int32)), (.int (0 : Int32)), (.int (0 : Int32)), (.int (0 : Int32)), (.int (0 : Int32)), (.int (0 : Int32))] (.int (0 : Int32)) := ((V84.other W90 (Ne.symm ne_a0_b84)).other W93 (Ne.symm ne_a0_b84))
    exact ⟨b72, b79, b84, k72, k79, k84, 16, 6, (16 : Int32), (60 : Int32), rfl, N93, K93, sz_b72, sz_b79, sz_b84, ne_b72_b79, ne_b72_b84, ne_b79_b84, ⟨Or.inr ⟨rfl, rfl, rfl⟩, by decide, by decide, hp1⟩, f94, f95, f96, f97, f98, Fw93, f99, f100, (by rw [hp1]; exact f101), (by rw [hp1]; exact f102)⟩
  · refine own_ogc (S' := s₁.setTop (mkF m 0 #[.val (.ref a0), .val (.int (7 : Int32)), .unset] [])) (by rw [hp1]) ?_
    refine OGo.by (fun _ k => XS.aloadN X0.here hx rfl (hb hby d1_0) rfl rfl k) ?_
    show OGo p e below _ (s₁.setTop (mkF m 1 #[.val (.ref a0), .val (.int (7 : Int32)), .unset] [(.ref a0)]))
    obtain ⟨T103, X103, e103, st103⟩ := initO X0 hx hZ hown (hw _ (List.mem_of_getElem? (i := 10) rfl)) (hw _ (List.mem_of_getElem? (i := 11) rfl)) (hw _ (List.mem_of_getElem? (i := 12) rfl)) e0 (g := (mkF m 1 #[.val (.ref a0), .val (.int (7 : Int32)), .unset] [(.ref a0)])) rfl (by rw [hml]; rfl) rfl (hb hby d1_1) (by decide) (W := 0) (by show 2 * 0 + _ ≤ _; exact Nat.le_of_eq rfl) (by decide)
    refine OGo.by st103 ?_
    show OGo p e below _ (T103.setTop (mkF m 4 #[.val (.ref a0), .val (.int (7 : Int32)), .unset] []))
    refine OGo.by (fun _ k => XS.bipush X103.here hx rfl (hb hby d1_4) k) ?_
    show OGo p e below _ (T103.setTop (mkF m 6 #[.val (.ref a0), .val (.int (7 : Int32)), .unset] [(.int (64 : Int32))]))
    refine OGo.by (fun _ k => XS.lconst X103.here hx rfl (hb hby d1_6) k) ?_
    show OGo p e below _ (T103.setTop (mkF m 7 #[.val (.ref a0), .val (.int (7 : Int32)), .unset] [(.long (1 : Int64)), (.int (64 : Int32))]))
    refine OGo.by (X103.ldc2Long hx hown (mvT hZ (hw _ (List.mem_of_getElem? (i := 13) rfl))) (g := (mkF m 7 #[.val (.ref a0), .val (.int (7 : Int32)), .unset] [(.long (1 : Int64)), (.int (64 : Int32))])) rfl (hb hby d1_7)) ?_
    show OGo p e below _ (T103.setTop (mkF m 10 #[.val (.ref a0), .val (.int (7 : Int32)), .unset] [(.long (2 : Int64)), (.long (1 : Int64)), (.int (64 : Int32))]))
    refine OGo.by (fun _ k => XS.iloadN X103.here hx rfl (hb hby d1_10) rfl k) ?_
    show OGo p e below _ (T103.setTop (mkF m 11 #[.val (.ref a0), .val (.int (7 : Int32)), .unset] [(.int (7 : Int32)), (.long (2 : Int64)), (.long (1 : Int64)), (.int (64 : Int32))]))
    refine OGo.by (fun _ k => XS.i2l X103.here hx rfl (hb hby d1_11) rfl k) ?_
    show OGo p e below _ (T103.setTop (mkF m 12 #[.val (.ref a0), .val (.int (7 : Int32)), .unset] [(.long ((7 : Int32).toInt64)), (.long (2 : Int64)), (.long (1 : Int64)), (.int (64 : Int32))]))
    rw [(by decide : ((7 : Int32).toInt64) = (7 : Int64))]
    show OGo p e below _ (T103.setTop (mkF m 12 #[.val (.ref a0), .val (.int (7 : Int32)), .unset] [(.long (7 : Int64)), (.long (2 : Int64)), (.long (1 : Int64)), (.int (64 : Int32))]))
    refine OGo.by (fun _ k => XS.lmul X103.here hx rfl (hb hby d1_12) rfl k) ?_
    show OGo p e below _ (T103.setTop (mkF m 13 #[.val (.ref a0), .val (.int (7 : Int32)), .unset] [(.long (14 : Int64)), (.long (1 : Int64)), (.int (64 : Int32))]))
    refine OGo.by (fun _ k => XS.lconst X103.here hx rfl (hb hby d1_13) k) ?_
    show OGo p e below _ (T103.setTop (mkF m 14 #[.val (.ref a0), .val (.int (7 : Int32)), .unset] [(.long (1 : Int64)), (.long (14 : Int64)), (.long (1 : Int64)), (.int (64 : Int32))]))
    refine OGo.by (fun _ k => XS.lsub X103.here hx rfl (hb hby d1_14) rfl k) ?_
    show OGo p e below _ (T103.setTop (mkF m 15 #[.val (.ref a0), .val (.int (7 : Int32)), .unset] [(.long (13 : Int64)), (.long (1 : Int64)), (.int (64 : Int32))]))
    have H104 := Jvm.LawKit.callS X103 hx (y := (⟨"java/lang/Math", "max", "(JJ)J"⟩ : MethodName)) hown (mvT hZ (hw _ (List.mem_of_getElem? (i := 14) rfl))) (mvT hZ (hw _ (List.mem_of_getElem? (i := 15) rfl))) (mvT hZ (hw _ (List.mem_of_getElem? (i := 16) rfl))) (mvT hZ (hw _ (List.mem_of_getElem? (i := 17) rfl))) (by decide) (backOf (W := 1) (rm_mx13 l Z av0 hw [] h0 n0 Z0) hZ (hw _ (List.mem_of_getElem? (i := 17) rfl)) (hw _ (List.mem_of_getElem? (i := 16) rfl)) (by decide) (by decide)) (g := (mkF m 15 #[.val (.ref a0), .val (.int (7 : Int32)), .unset] [(.long (13 : Int64)), (.long (1 : Int64)), (.int (64 : Int32))])) rfl (by rw [hml]; rfl) (argsL := [(.long (1 : Int64)), (.long (13 : Int64))]) (rest := [(.int (64 : Int32))]) (lenOf own_pd1 rfl) rfl (by show 2 * 0 + _ ≤ _; exact Nat.le_of_eq rfl) (hb hby d1_15) (fun _ _ => ⟨rfl, e103, (by decide : 0 + 0 ≤ _), (by decide : 0 + 0 ≤ _)⟩)
    refine own_cpsP H104 (c' := 0) (s' := 0) rfl rfl N0 (r := (some (.long (13 : Int64)))) (h1 := h0) (fun _ _ _ q => q) ?_
    clear H104
    intro T104 L104 X104 N104 e104
    show OGo p e below _ (T104.setTop (mkF m 18 #[.val (.ref a0), .val (.int (7 : Int32)), .unset] [(.long (13 : Int64)), (.int (64 : Int32))]))
    have H105 := Jvm.LawKit.callS X104 hx (y := (⟨"java/lang/Long", "numberOfLeadingZeros", "(J)I"⟩ : MethodName)) hown (mvT hZ (hw _ (List.mem_of_getElem? (i := 18) rfl))) (mvT hZ (hw _ (List.mem_of_getElem? (i := 19) rfl))) (mvT hZ (hw _ (List.mem_of_getElem? (i := 20) rfl))) (mvT hZ (hw _ (List.mem_of_getElem? (i := 21) rfl))) (by decide) (backOf (W := 1) (rm_nzl13 l Z av0 hw [] h0 n0 Z0) hZ (hw _ (List.mem_of_getElem? (i := 21) rfl)) (hw _ (List.mem_of_getElem? (i := 20) rfl)) (by decide) (by decide)) (g := (mkF m 18 #[.val (.ref a0), .val (.int (7 : Int32)), .unset] [(.long (13 : Int64)), (.int (64 : Int32))])) rfl (by rw [hml]; rfl) (argsL := [(.long (13 : Int64))]) (rest := [(.int (64 : Int32))]) (lenOf own_pd2 rfl) rfl (by show 2 * 0 + _ ≤ _; exact Nat.le_of_eq rfl) (hb hby d1_18) (fun _ _ => ⟨rfl, e104, (by decide : 0 + 0 ≤ _), (by decide : 0 + 0 ≤ _)⟩)
    refine own_cpsP H105 (c' := 0) (s' := 0) rfl rfl N104 (r := (some (.int (60 : Int32)))) (h1 := h0) (fun _ _ _ q => q) ?_
    clear H105
    intro T105 L105 X105 N105 e105
    show OGo p e below _ (T105.setTop (mkF m 21 #[.val (.ref a0), .val (.int (7 : Int32)), .unset] [(.int (60 : Int32)), (.int (64 : Int32))]))
    refine OGo.by (fun _ k => XS.isub X105.here hx rfl (hb hby d1_21) rfl k) ?_
    show OGo p e below _ (T105.setTop (mkF m 22 #[.val (.ref a0), .val (.int (7 : Int32)), .unset] [(.int (4 : Int32))]))
    refine OGo.by (fun _ k => XS.istoreN X105.here hx rfl (hb hby d1_22) rfl (l' := #[.val (.ref a0), .val (.int (7 : Int32)), .val (.int (4 : Int32))]) rfl k) ?_
    show OGo p e below _ (T105.setTop (mkF m 23 #[.val (.ref a0), .val (.int (7 : Int32)), .val (.int (4 : Int32))] []))
    refine OGo.by (fun _ k => XS.aloadN X105.here hx rfl (hb hby d1_23) rfl rfl k) ?_
    show OGo p e below _ (T105.setTop (mkF m 24 #[.val (.ref a0), .val (.int (7 : Int32)), .val (.int (4 : Int32))] [(.ref a0)]))
    refine OGo.by (fun _ k => XS.iconst X105.here hx rfl (hb hby d1_24) k) ?_
    show OGo p e below _ (T105.setTop (mkF m 25 #[.val (.ref a0), .val (.int (7 : Int32)), .val (.int (4 : Int32))] [(.int (1 : Int32)), (.ref a0)]))
    refine OGo.by (fun _ k => XS.iloadN X105.here hx rfl (hb hby d1_25) rfl k) ?_
    show OGo p e below _ (T105.setTop (mkF m 26 #[.val (.ref a0), .val (.int (7 : Int32)), .val (.int (4 : Int32))] [(.int (4 : Int32)), (.int (1 : Int32)), (.ref a0)]))
    refine OGo.by (fun _ k => XS.ishl X105.here hx rfl (hb hby d1_26) rfl k) ?_
    show OGo p e below _ (T105.setTop (mkF m 27 #[.val (.ref a0), .val (.int (7 : Int32)), .val (.int (4 : Int32))] [(.int ((1 : Int32) <<< ((4 : Int32) &&& 31))), (.ref a0)]))
    rw [(by decide : ((1 : Int32) <<< ((4 : Int32) &&& 31)) = (16 : Int32))]
    show OGo p e below _ (T105.setTop (mkF m 27 #[.val (.ref a0), .val (.int (7 : Int32)), .val (.int (4 : Int32))] [(.int (16 : Int32)), (.ref a0)]))
    obtain ⟨T106, h106, k106, X106, e106, E106, A106, st106⟩ := newP X105 hx hZ (hw _ (List.mem_of_getElem? (i := 0) rfl)) e105 (g := (mkF m 27 #[.val (.ref a0), .val (.int (7 : Int32)), .val (.int (4 : Int32))] [(.int (16 : Int32)), (.ref a0)])) rfl (hb hby d1_27) rfl (by decide : ¬ ((16 : Int32) < (0 : Int32))) (cap := 16) (by decide) (by decide) (by decide) (by decide)
    obtain ⟨b106, g106⟩ : ∃ z, z = h0.size := ⟨_, rfl⟩
    rw [← g106] at A106 st106
    have ne_a0_b106 : a0 ≠ b106 := Nat.ne_of_lt (Nat.lt_of_lt_of_le E0.lt (Nat.le_of_eq g106.symm))
    have g_b106 : n0 ≤ b106 := Nat.le_trans Z0 (Nat.le_of_eq g106.symm)
    have sz_b106 : h0.size ≤ b106 := Nat.le_trans (Nat.le_refl _) (Nat.le_of_eq g106.symm)
    refine OGo.by st106 ?_
    have K106 : Keep h0 h106 [a0] := ((Keep.refl h0 [a0])).ext E106
    have V106 : Arv Z h106 b106 k106 .int (16 : Int32) [(.int (0 : Int32)), (.int (0 : Int32)), (.int (0 : Int32)), (.int (0 : Int32)), (.int (0 : Int32)), (.int (0 : Int32)), (.int (0 : Int32)), (.int (0 : Int32)), (.int (0 : Int32)), (.int (0 : Int32)), (.int (0 : Int32)), (.int (0 : Int32)), (.int (0 : Int32)), (.int (0 : Int32)), (.int (0 : Int32)), (.int (0 : Int32))] (.int (0 : Int32)) := (Arv.new A106 (by decide)).pad (pad_rep [] (.int (0 : Int32)) 16)
    show OGo p e below _ (T106.setTop (mkF m 29 #[.val (.ref a0), .val (.int (7 : Int32)), .val (.int (4 : Int32))] [(.ref b106), (.ref a0)]))
    have f107 : Exa Z h106 a0 "com/example/faces_into_crowds/facesintocrowds/Buckets" := (E0.ext E106)
    have f108 : Fld Z h106 a0 "com/example/faces_into_crowds/facesintocrowds/Buckets" "mFirst" "[I" .null := (F_mFirst.ext E106)
    obtain ⟨T109, h109, X109, e109, W109, st109⟩ := putF X106 hx hZ hown (host := "") (Or.inl (hw _ (List.mem_of_getElem? (i := 27) rfl))) Via.refl e106 f108 f107 (Or.inr ⟨(hw _ (List.mem_of_getElem? (i := 28) rfl)), rfl, hnm⟩) (hw _ (List.mem_of_getElem? (i := 5) rfl)) (ty := (.array .int)) (by decide) rfl rfl (g := (mkF m 29 #[.val (.ref a0), .val (.int (7 : Int32)), .val (.int (4 : Int32))] [(.ref b106), (.ref a0)])) rfl rfl (hb hby d1_29)
    refine OGo.by st109 ?_
    have Fw109 := f108.same W109
    have N109 := Fr.snoc X109 N105 g_a0
    have K109 : Keep h0 h109 [a0] := (K106).wr W109 (Or.inl (List.mem_of_getElem? (i := 0) rfl))
    show OGo p e below _ (T109.setTop (mkF m 32 #[.val (.ref a0), .val (.int (7 : Int32)), .val (.int (4 : Int32))] []))
    refine OGo.by (fun _ k => XS.aloadN X109.here hx rfl (hb hby d1_32) rfl rfl k) ?_
    show OGo p e below _ (T109.setTop (mkF m 33 #[.val (.ref a0), .val (.int (7 : Int32)), .val (.int (4 : Int32))] [(.ref a0)]))
    obtain ⟨T110, X110, e110, st110⟩ := getF X109 hx hZ hown (host := "") (Or.inl (hw _ (List.mem_of_getElem? (i := 27) rfl))) Via.refl e109 Fw109 (g := (mkF m 33 #[.val (.ref a0), .val (.int (7 : Int32)), .val (.int (4 : Int32))] [(.ref a0)])) rfl rfl (hb hby d1_33)
    refine OGo.by st110 ?_
    show OGo p e below _ (T110.setTop (mkF m 36 #[.val (.ref a0), .val (.int (7 : Int32)), .val (.int (4 : Int32))] [(.ref b106)]))
    refine OGo.by (fun _ k => XS.iconst X110.here hx rfl (hb hby d1_36) k) ?_
    show OGo p e below _ (T110.setTop (mkF m 37 #[.val (.ref a0), .val (.int (7 : Int32)), .val (.int (4 : Int32))] [(.int (-1 : Int32)), (.ref b106)]))
    have f112 : Arv Z h109 b106 k106 .int (16 : Int32) [(.int (0 : Int32)), (.int (0 : Int32)), (.int (0 : Int32)), (.int (0 : Int32)), (.int (0 : Int32)), (.int (0 : Int32)), (.int (0 : Int32)), (.int (0 : Int32)), (.int (0 : Int32)), (.int (0 : Int32)), (.int (0 : Int32)), (.int (0 : Int32)), (.int (0 : Int32)), (.int (0 : Int32)), (.int (0 : Int32)), (.int (0 : Int32))] (.int (0 : Int32)) := (V106.other W109 (Ne.symm ne_a0_b106))
    have H111 := Jvm.LawKit.callS X110 hx (y := (⟨"java/util/Arrays", "fill", "([II)V"⟩ : MethodName)) hown (mvT hZ (hw _ (List.mem_of_getElem? (i := 29) rfl))) (mvT hZ (hw _ (List.mem_of_getElem? (i := 30) rfl))) (mvT hZ (hw _ (List.mem_of_getElem? (i := 31) rfl))) (mvT hZ (hw _ (List.mem_of_getElem? (i := 32) rfl))) (by decide) (backOf (W := 0) (rm_fi16 l Z av0 hw [] b106 k106 h109 n0 (Nat.le_trans Z0 K109.1) f112 g_b106) hZ (hw _ (List.mem_of_getElem? (i := 32) rfl)) (hw _ (List.mem_of_getElem? (i := 31) rfl)) (by decide) (by decide)) (g := (mkF m 37 #[.val (.ref a0), .val (.int (7 : Int32)), .val (.int (4 : Int32))] [(.int (-1 : Int32)), (.ref b106)])) rfl (by rw [hml]; rfl) (argsL := [(.ref b106), (.int (-1 : Int32))]) (rest := []) (lenOf own_pd3 rfl) rfl (by show 2 * 0 + _ ≤ _; exact Nat.le_of_eq rfl) (hb hby d1_37) (fun _ _ => ⟨rfl, e110, (by decide : 1 + 0 ≤ _), (by decide : 16 + 0 ≤ _)⟩)
    refine own_cpsS H111 (c' := 1) (s' := 16) rfl rfl N109 ?_
    clear H111
    intro v111 T111 L111 L111' hQ111 N111f X111
    obtain ⟨rfl, N111q, Kc111, G111_0⟩ := hQ111
    have N111 := N111f N111q
    obtain ⟨h111, e111⟩ : ∃ z, T111.heap = z := ⟨_, rfl⟩
    rw [e111] at Kc111 G111_0
    have K111 : Keep h0 h111 [a0] := (K109).trans Kc111 (allS (P := fun x => x ∈ ([a0] : List Addr) ∨ h0.size ≤ x) (Or.inr sz_b106) (all0 (P := fun x => x ∈ ([a0] : List Addr) ∨ h0.size ≤ x)))
    show OGo p e below _ (T111.setTop (mkF m 40 #[.val (.ref a0), .val (.int (7 : Int32)), .val (.int (4 : Int32))] []))
    refine OGo.by (fun _ k => XS.aloadN X111.here hx rfl (hb hby d1_40) rfl rfl k) ?_
    show OGo p e below _ (T111.setTop (mkF m 41 #[.val (.ref a0), .val (.int (7 : Int32)), .val (.int (4 : Int32))] [(.ref a0)]))
    refine OGo.by (fun _ k => XS.iloadN X111.here hx rfl (hb hby d1_41) rfl k) ?_
    show OGo p e below _ (T111.setTop (mkF m 42 #[.val (.ref a0), .val (.int (7 : Int32)), .val (.int (4 : Int32))] [(.int (7 : Int32)), (.ref a0)]))
    obtain ⟨T113, h113, k113, X113, e113, E113, A113, st113⟩ := newP X111 hx hZ (hw _ (List.mem_of_getElem? (i := 0) rfl)) e111 (g := (mkF m 42 #[.val (.ref a0), .val (.int (7 : Int32)), .val (.int (4 : Int32))] [(.int (7 : Int32)), (.ref a0)])) rfl (hb hby d1_42) rfl (by decide : ¬ ((7 : Int32) < (0 : Int32))) (cap := 7) (by decide) (by decide) (by decide) (by decide)
    obtain ⟨b113, g113⟩ : ∃ z, z = h111.size := ⟨_, rfl⟩
    rw [← g113] at A113 st113
    have f114 : Exa Z h111 a0 "com/example/faces_into_crowds/facesintocrowds/Buckets" := ((f107.wr W109).keep Kc111)
    have ne_a0_b113 : a0 ≠ b113 := Nat.ne_of_lt (Nat.lt_of_lt_of_le f114.lt (Nat.le_of_eq g113.symm))
    have ne_b106_b113 : b106 ≠ b113 := Nat.ne_of_lt (Nat.lt_of_lt_of_le G111_0.lt (Nat.le_of_eq g113.symm))
    have g_b113 : n0 ≤ b113 := Nat.le_trans (Nat.le_trans Z0 K111.1) (Nat.le_of_eq g113.symm)
    have sz_b113 : h0.size ≤ b113 := Nat.le_trans K111.1 (Nat.le_of_eq g113.symm)
    refine OGo.by st113 ?_
    have K113 : Keep h0 h113 [a0] := (K111).ext E113
    have V113 : Arv Z h113 b113 k113 .int (7 : Int32) [(.int (0 : Int32)), (.int (0 : Int32)), (.int (0 : Int32)), (.int (0 : Int32)), (.int (0 : Int32)), (.int (0 : Int32)), (.int (0 : Int32))] (.int (0 : Int32)) := (Arv.new A113 (by decide)).pad (pad_rep [] (.int (0 : Int32)) 7)
    show OGo p e below _ (T113.setTop (mkF m 44 #[.val (.ref a0), .val (.int (7 : Int32)), .val (.int (4 : Int32))] [(.ref b113), (.ref a0)]))
    have f115 : Exa Z h113 a0 "com/example/faces_into_crowds/facesintocrowds/Buckets" := (f114.ext E113)
    have f116 : Fld Z h113 a0 "com/example/faces_into_crowds/facesintocrowds/Buckets" "mNext" "[I" .null := ((((F_mNext.ext E106).other W109 (Or.inr (slot_ne (Or.inr (hw _ (List.mem_of_getElem? (i := 34) rfl))) (Or.inr (hw _ (List.mem_of_getElem? (i := 28) rfl))) (by decide) (t := (.array .int)) (t' := (.array .int)) (by decide) (by decide)))).keep Kc111 (ninS ne_a0_b106 nin0)).ext E113)
    obtain ⟨T117, h117, X117, e117, W117, st117⟩ := putF X113 hx hZ hown (host := "") (Or.inl (hw _ (List.mem_of_getElem? (i := 33) rfl))) Via.refl e113 f116 f115 (Or.inr ⟨(hw _ (List.mem_of_getElem? (i := 34) rfl)), rfl, hnm⟩) (hw _ (List.mem_of_getElem? (i := 5) rfl)) (ty := (.array .int)) (by decide) rfl rfl (g := (mkF m 44 #[.val (.ref a0), .val (.int (7 : Int32)), .val (.int (4 : Int32))] [(.ref b113), (.ref a0)])) rfl rfl (hb hby d1_44)
    refine OGo.by st117 ?_
    have Fw117 := f116.same W117
    have N117 := Fr.snoc X117 N111 g_a0
    have K117 : Keep h0 h117 [a0] := (K113).wr W117 (Or.inl (List.mem_of_getElem? (i := 0) rfl))
    show OGo p e below _ (T117.setTop (mkF m 47 #[.val (.ref a0), .val (.int (7 : Int32)), .val (.int (4 : Int32))] []))
    refine OGo.by (fun _ k => XS.aloadN X117.here hx rfl (hb hby d1_47) rfl rfl k) ?_
    show OGo p e below _ (T117.setTop (mkF m 48 #[.val (.ref a0), .val (.int (7 : Int32)), .val (.int (4 : Int32))] [(.ref a0)]))
    refine OGo.by (fun _ k => XS.iloadN X117.here hx rfl (hb hby d1_48) rfl k) ?_
    show OGo p e below _ (T117.setTop (mkF m 49 #[.val (.ref a0), .val (.int (7 : Int32)), .val (.int (4 : Int32))] [(.int (7 : Int32)), (.ref a0)]))
    obtain ⟨T118, h118, k118, X118, e118, E118, A118, st118⟩ := newP X117 hx hZ (hw _ (List.mem_of_getElem? (i := 0) rfl)) e117 (g := (mkF m 49 #[.val (.ref a0), .val (.int (7 : Int32)), .val (.int (4 : Int32))] [(.int (7 : Int32)), (.ref a0)])) rfl (hb hby d1_49) rfl (by decide : ¬ ((7 : Int32) < (0 : Int32))) (cap := 7) (by decide) (by decide) (by decide) (by decide)
    obtain ⟨b118, g118⟩ : ∃ z, z = h117.size := ⟨_, rfl⟩
    rw [← g118] at A118 st118
    have f119 : Exa Z h117 a0 "com/example/faces_into_crowds/facesintocrowds/Buckets" := (f115.wr W117)
    have ne_a0_b118 : a0 ≠ b118 := Nat.ne_of_lt (Nat.lt_of_lt_of_le f119.lt (Nat.le_of_eq g118.symm))
    have f120 : Arv Z h117 b106 k106 .int (16 : Int32) [(.int (-1 : Int32)), (.int (-1 : Int32)), (.int (-1 : Int32)), (.int (-1 : Int32)), (.int (-1 : Int32)), (.int (-1 : Int32)), (.int (-1 : Int32)), (.int (-1 : Int32)), (.int (-1 : Int32)), (.int (-1 : Int32)), (.int (-1 : Int32)), (.int (-1 : Int32)), (.int (-1 : Int32)), (.int (-1 : Int32)), (.int (-1 : Int32)), (.int (-1 : Int32))] (.int (0 : Int32)) := ((G111_0.ext E113).other W117 (Ne.symm ne_a0_b106))
    have ne_b106_b118 : b106 ≠ b118 := Nat.ne_of_lt (Nat.lt_of_lt_of_le f120.lt (Nat.le_of_eq g118.symm))
    have f121 : Arv Z h117 b113 k113 .int (7 : Int32) [(.int (0 : Int32)), (.int (0 : Int32)), (.int (0 : Int32)), (.int (0 : Int32)), (.int (0 : Int32)), (.int (0 : Int32)), (.int (0 : Int32))] (.int (0 : Int32)) := (V113.other W117 (Ne.symm ne_a0_b113))
    have ne_b113_b118 : b113 ≠ b118 := Nat.ne_of_lt (Nat.lt_of_lt_of_le f121.lt (Nat.le_of_eq g118.symm))
    have g_b118 : n0 ≤ b118 := Nat.le_trans (Nat.le_trans Z0 K117.1) (Nat.le_of_eq g118.symm)
    have sz_b118 : h0.size ≤ b118 := Nat.le_trans K117.1 (Nat.le_of_eq g118.symm)
    refine OGo.by st118 ?_
    have K118 : Keep h0 h118 [a0] := (K117).ext E118
    have V118 : Arv Z h118 b118 k118 .int (7 : Int32) [(.int (0 : Int32)), (.int (0 : Int32)), (.int (0 : Int32)), (.int (0 : Int32)), (.int (0 : Int32)), (.int (0 : Int32)), (.int (0 : Int32))] (.int (0 : Int32)) := (Arv.new A118 (by decide)).pad (pad_rep [] (.int (0 : Int32)) 7)
    show OGo p e below _ (T118.setTop (mkF m 51 #[.val (.ref a0), .val (.int (7 : Int32)), .val (.int (4 : Int32))] [(.ref b118), (.ref a0)]))
    have f122 : Exa Z h118 a0 "com/example/faces_into_crowds/facesintocrowds/Buckets" := (f119.ext E118)
    have f123 : Fld Z h118 a0 "com/example/faces_into_crowds/facesintocrowds/Buckets" "mSlots" "[I" .null := ((((((F_mSlots.ext E106).other W109 (Or.inr (slot_ne (Or.inr (hw _ (List.mem_of_getElem? (i := 36) rfl))) (Or.inr (hw _ (List.mem_of_getElem? (i := 28) rfl))) (by decide) (t := (.array .int)) (t' := (.array .int)) (by decide) (by decide)))).keep Kc111 (ninS ne_a0_b106 nin0)).ext E113).other W117 (Or.inr (slot_ne (Or.inr (hw _ (List.mem_of_getElem? (i := 36) rfl))) (Or.inr (hw _ (List.mem_of_getElem? (i := 34) rfl))) (by decide) (t := (.array .int)) (t' := (.array .int)) (by decide) (by decide)))).ext E118)
    obtain ⟨T124, h124, X124, e124, W124, st124⟩ := putF X118 hx hZ hown (host := "") (Or.inl (hw _ (List.mem_of_getElem? (i := 35) rfl))) Via.refl e118 f123 f122 (Or.inr ⟨(hw _ (List.mem_of_getElem? (i := 36) rfl)), rfl, hnm⟩) (hw _ (List.mem_of_getElem? (i := 5) rfl)) (ty := (.array .int)) (by decide) rfl rfl (g := (mkF m 51 #[.val (.ref a0), .val (.int (7 : Int32)), .val (.int (4 : Int32))] [(.ref b118), (.ref a0)])) rfl rfl (hb hby d1_51)
    refine OGo.by st124 ?_
    have Fw124 := f123.same W124
    have N124 := Fr.snoc X124 N117 g_a0
    have K124 : Keep h0 h124 [a0] := (K118).wr W124 (Or.inl (List.mem_of_getElem? (i := 0) rfl))
    show OGo p e below _ (T124.setTop (mkF m 54 #[.val (.ref a0), .val (.int (7 : Int32)), .val (.int (4 : Int32))] []))
    refine OGo.by (fun _ k => XS.aloadN X124.here hx rfl (hb hby d1_54) rfl rfl k) ?_
    show OGo p e below _ (T124.setTop (mkF m 55 #[.val (.ref a0), .val (.int (7 : Int32)), .val (.int (4 : Int32))] [(.ref a0)]))
    refine OGo.by (fun _ k => XS.bipush X124.here hx rfl (hb hby d1_55) k) ?_
    show OGo p e below _ (T124.setTop (mkF m 57 #[.val (.ref a0), .val (.int (7 : Int32)), .val (.int (4 : Int32))] [(.int (64 : Int32)), (.ref a0)]))
    refine OGo.by (fun _ k => XS.iloadN X124.here hx rfl (hb hby d1_57) rfl k) ?_
    show OGo p e below _ (T124.setTop (mkF m 58 #[.val (.ref a0), .val (.int (7 : Int32)), .val (.int (4 : Int32))] [(.int (4 : Int32)), (.int (64 : Int32)), (.ref a0)]))
    refine OGo.by (fun _ k => XS.isub X124.here hx rfl (hb hby d1_58) rfl k) ?_
    show OGo p e below _ (T124.setTop (mkF m 59 #[.val (.ref a0), .val (.int (7 : Int32)), .val (.int (4 : Int32))] [(.int (60 : Int32)), (.ref a0)]))
    have f125 : Exa Z h124 a0 "com/example/faces_into_crowds/facesintocrowds/Buckets" := (f122.wr W124)
    have f126 : Fld Z h124 a0 "com/example/faces_into_crowds/facesintocrowds/Buckets" "mShift" "I" (.int (0 : Int32)) := (((((((F_mShift.ext E106).other W109 (Or.inr (slot_ne (Or.inr (hw _ (List.mem_of_getElem? (i := 38) rfl))) (Or.inr (hw _ (List.mem_of_getElem? (i := 28) rfl))) (by decide) (t := .int) (t' := (.array .int)) (by decide) (by decide)))).keep Kc111 (ninS ne_a0_b106 nin0)).ext E113).other W117 (Or.inr (slot_ne (Or.inr (hw _ (List.mem_of_getElem? (i := 38) rfl))) (Or.inr (hw _ (List.mem_of_getElem? (i := 34) rfl))) (by decide) (t := .int) (t' := (.array .int)) (by decide) (by decide)))).ext E118).other W124 (Or.inr (slot_ne (Or.inr (hw _ (List.mem_of_getElem? (i := 38) rfl))) (Or.inr (hw _ (List.mem_of_getElem? (i := 36) rfl))) (by decide) (t := .int) (t' := (.array .int)) (by decide) (by decide))))
    obtain ⟨T127, h127, X127, e127, W127, st127⟩ := putF X124 hx hZ hown (host := "") (Or.inl (hw _ (List.mem_of_getElem? (i := 37) rfl))) Via.refl e124 f126 f125 (Or.inr ⟨(hw _ (List.mem_of_getElem? (i := 38) rfl)), rfl, hnm⟩) (hw _ (List.mem_of_getElem? (i := 5) rfl)) (ty := .int) (by decide) rfl rfl (g := (mkF m 59 #[.val (.ref a0), .val (.int (7 : Int32)), .val (.int (4 : Int32))] [(.int (60 : Int32)), (.ref a0)])) rfl rfl (hb hby d1_59)
    refine OGo.by st127 ?_
    have Fw127 := f126.same W127
    have N127 := Fr.snoc X127 N124 g_a0
    have K127 : Keep h0 h127 [a0] := (K124).wr W127 (Or.inl (List.mem_of_getElem? (i := 0) rfl))
    show OGo p e below _ (T127.setTop (mkF m 62 #[.val (.ref a0), .val (.int (7 : Int32)), .val (.int (4 : Int32))] []))
    obtain ⟨fs, hr, hrun, hended, hW, hsame⟩ := X127.leave (v := none) (fun _ => rfl)
    refine OGo.ret (X127.returnOut hx Bd.returns (hb hby d1_62) hr) hrun hended ⟨_, _, rfl, ?_, ⟨_, rfl⟩, hW, hsame.mono (by decide) (by decide)⟩
    show Q_rm_in Z a0 p1 h0 n0 _ T127.heap _
    rw [e127]
    have f128 : Exa Z h127 a0 "com/example/faces_into_crowds/facesintocrowds/Buckets" := (f125.wr W127)
    have f129 : Fld Z h127 a0 "com/example/faces_into_crowds/facesintocrowds/Buckets" "mFirst" "[I" (.ref b106) := ((((((Fw109.keep Kc111 (ninS ne_a0_b106 nin0)).ext E113).other W117 (Or.inr (slot_ne (Or.inr (hw _ (List.mem_of_getElem? (i := 28) rfl))) (Or.inr (hw _ (List.mem_of_getElem? (i := 34) rfl))) (by decide) (t := (.array .int)) (t' := (.array .int)) (by decide) (by decide)))).ext E118).other W124 (Or.inr (slot_ne (Or.inr (hw _ (List.mem_of_getElem? (i := 28) rfl))) (Or.inr (hw _ (List.mem_of_getElem? (i := 36) rfl))) (by decide) (t := (.array .int)) (t' := (.array .int)) (by decide) (by decide)))).other W127 (Or.inr (slot_ne (Or.inr (hw _ (List.mem_of_getElem? (i := 28) rfl))) (Or.inr (hw _ (List.mem_of_getElem? (i := 38) rfl))) (by decide) (t := (.array .int)) (t' := .int) (by decide) (by decide))))
    have f130 : Fld Z h127 a0 "com/example/faces_into_crowds/facesintocrowds/Buckets" "mNext" "[I" (.ref b113) := (((Fw117.ext E118).other W124 (Or.inr (slot_ne (Or.inr (hw _ (List.mem_of_getElem? (i := 34) rfl))) (Or.inr (hw _ (List.mem_of_getElem? (i := 36) rfl))) (by decide) (t := (.array .int)) (t' := (.array .int)) (by decide) (by decide)))).other W127 (Or.inr (slot_ne (Or.inr (hw _ (List.mem_of_getElem? (i := 34) rfl))) (Or.inr (hw _ (List.mem_of_getElem? (i := 38) rfl))) (by decide) (t := (.array .int)) (t' := .int) (by decide) (by decide))))
    have f131 : Fld Z h127 a0 "com/example/faces_into_crowds/facesintocrowds/Buckets" "mSlots" "[I" (.ref b118) := (Fw124.other W127 (Or.inr (slot_ne (Or.inr (hw _ (List.mem_of_getElem? (i := 36) rfl))) (Or.inr (hw _ (List.mem_of_getElem? (i := 38) rfl))) (by decide) (t := (.array .int)) (t' := .int) (by decide) (by decide))))
    have f132 : Fld Z h127 a0 "com/example/faces_into_crowds/facesintocrowds/Buckets" "mUnits" "[I" .null := ((((((((F_mUnits.ext E106).other W109 (Or.inr (slot_ne (Or.inl (hw _ (List.mem_of_getElem? (i := 47) rfl))) (Or.inr (hw _ (List.mem_of_getElem? (i := 28) rfl))) (by decide) (t := (.array .int)) (t' := (.array .int)) (by decide) (by decide)))).keep Kc111 (ninS ne_a0_b106 nin0)).ext E113).other W117 (Or.inr (slot_ne (Or.inl (hw _ (List.mem_of_getElem? (i := 47) rfl))) (Or.inr (hw _ (List.mem_of_getElem? (i := 34) rfl))) (by decide) (t := (.array .int)) (t' := (.array .int)) (by decide) (by decide)))).ext E118).other W124 (Or.inr (slot_ne (Or.inl (hw _ (List.mem_of_getElem? (i := 47) rfl))) (Or.inr (hw _ (List.mem_of_getElem? (i := 36) rfl))) (by decide) (t := (.array .int)) (t' := (.array .int)) (by decide) (by decide)))).other W127 (Or.inr (slot_ne (Or.inl (hw _ (List.mem_of_getElem? (i := 47) rfl))) (Or.inr (hw _ (List.mem_of_getElem? (i := 38) rfl))) (by decide) (t := (.array .int)) (t' := .int) (by decide) (by decide))))
    have f133 : Fld Z h127 a0 "com/example/faces_into_crowds/facesintocrowds/Buckets" "mBuckets" "I" (.int (0 : Int32)) := ((((((((F_mBuckets.ext E106).other W109 (Or.inr (slot_ne (Or.inl (hw _ (List.mem_of_getElem? (i := 45) rfl))) (Or.inr (hw _ (List.mem_of_getElem? (i := 28) rfl))) (by decide) (t := .int) (t' := (.array .int)) (by decide) (by decide)))).keep Kc111 (ninS ne_a0_b106 nin0)).ext E113).other W117 (Or.inr (slot_ne (Or.inl (hw _ (List.mem_of_getElem? (i := 45) rfl))) (Or.inr (hw _ (List.mem_of_getElem? (i := 34) rfl))) (by decide) (t := .int) (t' := (.array .int)) (by decide) (by decide)))).ext E118).other W124 (Or.inr (slot_ne (Or.inl (hw _ (List.mem_of_getElem? (i := 45) rfl))) (Or.inr (hw _ (List.mem_of_getElem? (i := 36) rfl))) (by decide) (t := .int) (t' := (.array .int)) (by decide) (by decide)))).other W127 (Or.inr (slot_ne (Or.inl (hw _ (List.mem_of_getElem? (i := 45) rfl))) (Or.inr (hw _ (List.mem_of_getElem? (i := 38) rfl))) (by decide) (t := .int) (t' := .int) (by decide) (by decide))))
    have f134 : Arv Z h127 b106 k106 .int (16 : Int32) [(.int (-1 : Int32)), (.int (-1 : Int32)), (.int (-1 : Int32)), (.int (-1 : Int32)), (.int (-1 : Int32)), (.int (-1 : Int32)), (.int (-1 : Int32)), (.int (-1 : Int32)), (.int (-1 : Int32)), (.int (-1 : Int32)), (.int (-1 : Int32)), (.int (-1 : Int32)), (.int (-1 : Int32)), (.int (-1 : Int32)), (.int (-1 : Int32)), (.int (-1 : Int32))] (.int (0 : Int32)) := (((f120.ext E118).other W124 (Ne.symm ne_a0_b106)).other W127 (Ne.symm ne_a0_b106))
    have f135 : Arv Z h127 b113 k113 .int (7 : Int32) [(.int (0 : Int32)), (.int (0 : Int32)), (.int (0 : Int32)), (.int (0 : Int32)), (.int (0 : Int32)), (.int (0 : Int32)), (.int (0 : Int32))] (.int (0 : Int32)) := (((f121.ext E118).other W124 (Ne.symm ne_a0_b113)).other W127 (Ne.symm ne_a0_b113))
    have f136 : Arv Z h127 b118 k118 .int (7 : Int32) [(.int (0 : Int32)), (.int (0 : Int32)), (.int (0 : Int32)), (.int (0 : Int32)), (.int (0 : Int32)), (.int (0 : Int32)), (.int (0 : Int32))] (.int (0 : Int32)) := ((V118.other W124 (Ne.symm ne_a0_b118)).other W127 (Ne.symm ne_a0_b118))
    exact ⟨b106, b113, b118, k106, k113, k118, 16, 7, (16 : Int32), (60 : Int32), rfl, N127, K127, sz_b106, sz_b113, sz_b118, ne_b106_b113, ne_b106_b118, ne_b113_b118, ⟨Or.inr ⟨rfl, rfl, rfl⟩, by decide, by decide, hp1⟩, f128, f129, f130, f131, f132, Fw127, f133, f134, (by rw [hp1]; exact f135), (by rw [hp1]; exact f136)⟩
theorem d10_0 : decode prog_1_method_7_code 0 = .ok (.aload_n 3, 1) := by decide +kernel
theorem d10_1 : decode prog_1_method_7_code 1 = .ok (.arraylength, 1) := by decide +kernel
theorem d10_2 : decode prog_1_method_7_code 2 = .ok (.istore 4, 2) := by decide +kernel
theorem d10_4 : decode prog_1_method_7_code 4 = .ok (.iconst 1, 1) := by decide +kernel
theorem d10_5 : decode prog_1_method_7_code 5 = .ok (.istore 5, 2) := by decide +kernel
theorem d10_7 : decode prog_1_method_7_code 7 = .ok (.iconst 0, 1) := by decide +kernel
theorem d10_8 : decode prog_1_method_7_code 8 = .ok (.istore 6, 2) := by decide +kernel
theorem d10_10 : decode prog_1_method_7_code 10 = .ok (.iload 6, 2) := by decide +kernel
theorem d10_12 : decode prog_1_method_7_code 12 = .ok (.iload 4, 2) := by decide +kernel
theorem d10_14 : decode prog_1_method_7_code 14 = .ok (.if_icmp .ge 52, 3) := by decide +kernel
theorem d10_17 : decode prog_1_method_7_code 17 = .ok (.iload 5, 2) := by decide +kernel
theorem d10_19 : decode prog_1_method_7_code 19 = .ok (.ifCond .eq 47, 3) := by decide +kernel
theorem d10_22 : decode prog_1_method_7_code 22 = .ok (.aload_n 3, 1) := by decide +kernel
theorem d10_23 : decode prog_1_method_7_code 23 = .ok (.iload 6, 2) := by decide +kernel
theorem d10_25 : decode prog_1_method_7_code 25 = .ok (.aaload, 1) := by decide +kernel
theorem d10_26 : decode prog_1_method_7_code 26 = .ok (.aload_n 2, 1) := by decide +kernel
theorem d10_27 : decode prog_1_method_7_code 27 = .ok (.iload_n 0, 1) := by decide +kernel
theorem d10_28 : decode prog_1_method_7_code 28 = .ok (.iload 4, 2) := by decide +kernel
theorem d10_30 : decode prog_1_method_7_code 30 = .ok (.imul, 1) := by decide +kernel
theorem d10_31 : decode prog_1_method_7_code 31 = .ok (.iload 6, 2) := by decide +kernel
theorem d10_33 : decode prog_1_method_7_code 33 = .ok (.iadd, 1) := by decide +kernel
theorem d10_34 : decode prog_1_method_7_code 34 = .ok (.iaload, 1) := by decide +kernel
theorem d10_35 : decode prog_1_method_7_code 35 = .ok (.iaload, 1) := by decide +kernel
theorem d10_36 : decode prog_1_method_7_code 36 = .ok (.aload_n 3, 1) := by decide +kernel
theorem d10_37 : decode prog_1_method_7_code 37 = .ok (.iload 6, 2) := by decide +kernel
theorem d10_39 : decode prog_1_method_7_code 39 = .ok (.aaload, 1) := by decide +kernel
theorem d10_40 : decode prog_1_method_7_code 40 = .ok (.aload_n 2, 1) := by decide +kernel
theorem d10_41 : decode prog_1_method_7_code 41 = .ok (.iload_n 1, 1) := by decide +kernel
theorem d10_42 : decode prog_1_method_7_code 42 = .ok (.iload 4, 2) := by decide +kernel
theorem d10_44 : decode prog_1_method_7_code 44 = .ok (.imul, 1) := by decide +kernel
theorem d10_45 : decode prog_1_method_7_code 45 = .ok (.iload 6, 2) := by decide +kernel
theorem d10_47 : decode prog_1_method_7_code 47 = .ok (.iadd, 1) := by decide +kernel
theorem d10_48 : decode prog_1_method_7_code 48 = .ok (.iaload, 1) := by decide +kernel
theorem d10_49 : decode prog_1_method_7_code 49 = .ok (.iaload, 1) := by decide +kernel
theorem d10_50 : decode prog_1_method_7_code 50 = .ok (.if_icmp .ne 7, 3) := by decide +kernel
theorem d10_53 : decode prog_1_method_7_code 53 = .ok (.iconst 1, 1) := by decide +kernel
theorem d10_54 : decode prog_1_method_7_code 54 = .ok (.goto 4, 3) := by decide +kernel
theorem d10_58 : decode prog_1_method_7_code 58 = .ok (.istore 5, 2) := by decide +kernel
theorem d10_60 : decode prog_1_method_7_code 60 = .ok (.iinc 6 1, 3) := by decide +kernel
theorem d10_63 : decode prog_1_method_7_code 63 = .ok (.goto (-53), 3) := by decide +kernel
theorem d10_66 : decode prog_1_method_7_code 66 = .ok (.iload 5, 2) := by decide +kernel
theorem d10_68 : decode prog_1_method_7_code 68 = .ok (.ireturn, 1) := by decide +kernel
theorem d10_57 : decode prog_1_method_7_code 57 = .ok (.iconst 0, 1) := by decide +kernel
theorem own_pn10 : plainName "com/example/faces_into_crowds/facesintocrowds/Buckets" = true := by first | (simp [plainName, overriddenIn]; done) | decide +kernel
theorem ef_rm_al (m : MethodId) (a2 : Addr) (a3 : Addr) (i0 : Nat) (i1 : Nat) (zr : Addr) (kv : ClassId) (kr : ClassId) (kn : ClassId) (R1 : List Int32) (R2 : List Int32) : entryFrame m #[(.int (Int32.ofNat i0)), (.int (Int32.ofNat i1)), (.ref a2), (.ref a3)] 7 = mkF m 0 #[.val (.int (Int32.ofNat i0)), .val (.int (Int32.ofNat i1)), .val (.ref a2), .val (.ref a3), .unset, .unset, .unset] [] := by first | (simp [entryFrame, mkF, argsToLocals, Value.category]; done) | rfl
def Q_rm_al (Z : State) (a2 : Addr) (a3 : Addr) (i0 : Nat) (i1 : Nat) (zr : Addr) (kv : ClassId) (kr : ClassId) (kn : ClassId) (R1 : List Int32) (R2 : List Int32) (h0 : Heap) (n0 : Nat) (v : Option Value) (h : Heap) (L : List Loc) : Prop := v = some (.int (own_eq (own_K R1 R2 i0) (own_K R1 R2 i1))) ∧ Fr n0 L ∧ h = h0
set_option maxRecDepth 65536 in
set_option maxHeartbeats 40000000 in
theorem rm_al (l : Launch) (Z : State) (av0 : Array Value) (hw : ∀ d ∈ tables_1, d.before av0 Z = true) (ws : List Jvm.Cond) (a2 : Addr) (a3 : Addr) (i0 : Nat) (i1 : Nat) (zr : Addr) (kv : ClassId) (kr : ClassId) (kn : ClassId) (R1 : List Int32) (R2 : List Int32) (h0 : Heap) (n0 : Nat) (Z0 : n0 ≤ h0.size) (A2 : Arv Z h0 a2 kv .int (4 : Int32) (R1.map Value.int) (.int (0 : Int32))) (AR : Arv Z h0 zr kr .int (4 : Int32) (R2.map Value.int) (.int (0 : Int32))) (AN : Arv Z h0 a3 kn (.array .int) (1 : Int32) [(.ref zr)] .null) (hR1 : own_V R1) (hR2 : R2.length = 4) (hi04 : i0 < 4) (hi14 : i1 < 4) :
    MetFree l (⟨"com/example/faces_into_crowds/facesintocrowds/Buckets", "alike", "(II[I[[I)Z"⟩ : MethodName) (head1 (Jvm.Cond.code (⟨"com/example/faces_into_crowds/facesintocrowds/Buckets", "alike", "(II[I[[I)Z"⟩ : MethodName) prog_1_method_7_code 7 (some .boolean) :: ws) ({ frames := 0, cells := 0, slots := 0, locals := 0 } : Room)) (fun a U => a = #[(.int (Int32.ofNat i0)), (.int (Int32.ofNat i1)), (.ref a2), (.ref a3)] ∧ Z.Warmed39 U.vm ∧ U.heap = h0) (fun _ _ _ _ _ => True) (fun _ U o U' => ∃ v L, o = .returned v ∧ Q_rm_al Z a2 a3 i0 i1 zr kv kr kn R1 R2 h0 n0 v U'.heap L ∧ FrameEnd U o U' L ({ frames := 0, cells := 0, slots := 0, locals := 0 } : Room).cells ({ frames := 0, cells := 0, slots := 0, locals := 0 } : Room).slots) := by
  refine MetFree.of_bodySF (plainFor_of_name own_pn10) hisR ?_
  intro p e s m args below meth c s₁ Bd hml0 hP hK
  obtain ⟨rfl, hZ, hh⟩ := hP
  have hx := Bd.exec
  have hby := Bd.bytes
  have hml : c.maxLocals = 7 := hml0
  have hown : s.vm.findClass "com/example/faces_into_crowds/facesintocrowds/Buckets" = some m.cls := findClass_of_methodNamed Bd.named
  have hnm := (name_of_methodNamed Bd.named Bd.method).1
  have X0 : Stand p l e ({ frames := 0, cells := 0, slots := 0, locals := 0 } : Room) s m #[(.int (Int32.ofNat i0)), (.int (Int32.ofNat i1)), (.ref a2), (.ref a3)] below meth c s₁ [] 0 0 := Stand.of_body Bd
  have e0 : s₁.heap = h0 := by rw [← hh, Bd.state]; rfl
  have N0 := Fr.nil n0
  refine OGo.by (P := fun U' o => ∃ v L, o = .returned v ∧ Q_rm_al Z a2 a3 i0 i1 zr kv kr kn R1 R2 h0 n0 v U'.heap L ∧ FrameEnd s o U' L ({ frames := 0, cells := 0, slots := 0, locals := 0 } : Room).cells ({ frames := 0, cells := 0, slots := 0, locals := 0 } : Room).slots) (fun T_ k_ => castTop (ef_rm_al m a2 a3 i0 i1 zr kv kr kn R1 R2) k_) ?_
  show OGo p e below _ (s₁.setTop (mkF m 0 #[.val (.int (Int32.ofNat i0)), .val (.int (Int32.ofNat i1)), .val (.ref a2), .val (.ref a3), .unset, .unset, .unset] []))
  refine OGo.by (fun _ k => XS.aloadN X0.here hx rfl (hb hby d10_0) rfl rfl k) ?_
  show OGo p e below _ (s₁.setTop (mkF m 1 #[.val (.int (Int32.ofNat i0)), .val (.int (Int32.ofNat i1)), .val (.ref a2), .val (.ref a3), .unset, .unset, .unset] [(.ref a3)]))
  obtain ⟨cl1, Ar1, q1, S1, M1, -, -⟩ := id AN
  refine OGo.by (X0.arraylength hx (by rw [e0]; exact Ar1.1) (State.isArrayOf_alike hZ.alike Ar1.2.1) (g := (mkF m 1 #[.val (.int (Int32.ofNat i0)), .val (.int (Int32.ofNat i1)), .val (.ref a2), .val (.ref a3), .unset, .unset, .unset] [(.ref a3)])) rfl rfl (hb hby d10_1)) ?_
  rw [len_of S1 M1]
  show OGo p e below _ (s₁.setTop (mkF m 2 #[.val (.int (Int32.ofNat i0)), .val (.int (Int32.ofNat i1)), .val (.ref a2), .val (.ref a3), .unset, .unset, .unset] [(.int (1 : Int32))]))
  refine OGo.by (fun _ k => XS.istore X0.here hx rfl (hb hby d10_2) rfl (l' := #[.val (.int (Int32.ofNat i0)), .val (.int (Int32.ofNat i1)), .val (.ref a2), .val (.ref a3), .val (.int (1 : Int32)), .unset, .unset]) rfl k) ?_
  show OGo p e below _ (s₁.setTop (mkF m 4 #[.val (.int (Int32.ofNat i0)), .val (.int (Int32.ofNat i1)), .val (.ref a2), .val (.ref a3), .val (.int (1 : Int32)), .unset, .unset] []))
  refine OGo.by (fun _ k => XS.iconst X0.here hx rfl (hb hby d10_4) k) ?_
  show OGo p e below _ (s₁.setTop (mkF m 5 #[.val (.int (Int32.ofNat i0)), .val (.int (Int32.ofNat i1)), .val (.ref a2), .val (.ref a3), .val (.int (1 : Int32)), .unset, .unset] [(.int (1 : Int32))]))
  refine OGo.by (fun _ k => XS.istore X0.here hx rfl (hb hby d10_5) rfl (l' := #[.val (.int (Int32.ofNat i0)), .val (.int (Int32.ofNat i1)), .val (.ref a2), .val (.ref a3), .val (.int (1 : Int32)), .val (.int (1 : Int32)), .unset]) rfl k) ?_
  show OGo p e below _ (s₁.setTop (mkF m 7 #[.val (.int (Int32.ofNat i0)), .val (.int (Int32.ofNat i1)), .val (.ref a2), .val (.ref a3), .val (.int (1 : Int32)), .val (.int (1 : Int32)), .unset] []))
  refine OGo.by (fun _ k => XS.iconst X0.here hx rfl (hb hby d10_7) k) ?_
  show OGo p e below _ (s₁.setTop (mkF m 8 #[.val (.int (Int32.ofNat i0)), .val (.int (Int32.ofNat i1)), .val (.ref a2), .val (.ref a3), .val (.int (1 : Int32)), .val (.int (1 : Int32)), .unset] [(.int (0 : Int32))]))
  refine OGo.by (fun _ k => XS.istore X0.here hx rfl (hb hby d10_8) rfl (l' := #[.val (.int (Int32.ofNat i0)), .val (.int (Int32.ofNat i1)), .val (.ref a2), .val (.ref a3), .val (.int (1 : Int32)), .val (.int (1 : Int32)), .val (.int (0 : Int32))]) rfl k) ?_
  show OGo p e below _ (s₁.setTop (mkF m 10 #[.val (.int (Int32.ofNat i0)), .val (.int (Int32.ofNat i1)), .val (.ref a2), .val (.ref a3), .val (.int (1 : Int32)), .val (.int (1 : Int32)), .val (.int (0 : Int32))] []))
  refine OGo.by (fun _ k => XS.iload X0.here hx rfl (hb hby d10_10) rfl k) ?_
  show OGo p e below _ (s₁.setTop (mkF m 12 #[.val (.int (Int32.ofNat i0)), .val (.int (Int32.ofNat i1)), .val (.ref a2), .val (.ref a3), .val (.int (1 : Int32)), .val (.int (1 : Int32)), .val (.int (0 : Int32))] [(.int (0 : Int32))]))
  refine OGo.by (fun _ k => XS.iload X0.here hx rfl (hb hby d10_12) rfl k) ?_
  show OGo p e below _ (s₁.setTop (mkF m 14 #[.val (.int (Int32.ofNat i0)), .val (.int (Int32.ofNat i1)), .val (.ref a2), .val (.ref a3), .val (.int (1 : Int32)), .val (.int (1 : Int32)), .val (.int (0 : Int32))] [(.int (1 : Int32)), (.int (0 : Int32))]))
  refine OGo.by (fun _ k => XS.icmpNo X0.here hx rfl (hb hby d10_14) rfl (tlt (by decide : (0 : Int32) < (1 : Int32))).2.1 k) ?_
  show OGo p e below _ (s₁.setTop (mkF m 17 #[.val (.int (Int32.ofNat i0)), .val (.int (Int32.ofNat i1)), .val (.ref a2), .val (.ref a3), .val (.int (1 : Int32)), .val (.int (1 : Int32)), .val (.int (0 : Int32))] []))
  refine OGo.by (fun _ k => XS.iload X0.here hx rfl (hb hby d10_17) rfl k) ?_
  show OGo p e below _ (s₁.setTop (mkF m 19 #[.val (.int (Int32.ofNat i0)), .val (.int (Int32.ofNat i1)), .val (.ref a2), .val (.ref a3), .val (.int (1 : Int32)), .val (.int (1 : Int32)), .val (.int (0 : Int32))] [(.int (1 : Int32))]))
  refine OGo.by (fun _ k => XS.ifNo X0.here hx rfl (hb hby d10_19) rfl ((if0 _ _).trans (feq (by decide : ¬ ((1 : Int32) = (0 : Int32)))).1) k) ?_
  show OGo p e below _ (s₁.setTop (mkF m 22 #[.val (.int (Int32.ofNat i0)), .val (.int (Int32.ofNat i1)), .val (.ref a2), .val (.ref a3), .val (.int (1 : Int32)), .val (.int (1 : Int32)), .val (.int (0 : Int32))] []))
  refine OGo.by (fun _ k => XS.aloadN X0.here hx rfl (hb hby d10_22) rfl rfl k) ?_
  show OGo p e below _ (s₁.setTop (mkF m 23 #[.val (.int (Int32.ofNat i0)), .val (.int (Int32.ofNat i1)), .val (.ref a2), .val (.ref a3), .val (.int (1 : Int32)), .val (.int (1 : Int32)), .val (.int (0 : Int32))] [(.ref a3)]))
  refine OGo.by (fun _ k => XS.iload X0.here hx rfl (hb hby d10_23) rfl k) ?_
  show OGo p e below _ (s₁.setTop (mkF m 25 #[.val (.int (Int32.ofNat i0)), .val (.int (Int32.ofNat i1)), .val (.ref a2), .val (.ref a3), .val (.int (1 : Int32)), .val (.int (1 : Int32)), .val (.int (0 : Int32))] [(.int (0 : Int32)), (.ref a3)]))
  obtain ⟨cl2, Ar2, q2, S2, M2, Hs2, G2⟩ := id AN
  have hin2 := inb_of (j := (0 : Int32)) S2 ⟨(by decide), (by decide)⟩
  refine OGo.by (X0.aaload hx (j := (0 : Int32)) (v := (.ref zr)) (by rw [e0]; exact Ar2.1) (State.isArrayOf_alike hZ.alike Ar2.2.1) rfl Ar2.2.2 hin2 (Has.at Hs2 hin2 rfl) (g := (mkF m 25 #[.val (.int (Int32.ofNat i0)), .val (.int (Int32.ofNat i1)), .val (.ref a2), .val (.ref a3), .val (.int (1 : Int32)), .val (.int (1 : Int32)), .val (.int (0 : Int32))] [(.int (0 : Int32)), (.ref a3)])) rfl rfl (hb hby d10_25)) ?_
  show OGo p e below _ (s₁.setTop (mkF m 26 #[.val (.int (Int32.ofNat i0)), .val (.int (Int32.ofNat i1)), .val (.ref a2), .val (.ref a3), .val (.int (1 : Int32)), .val (.int (1 : Int32)), .val (.int (0 : Int32))] [(.ref zr)]))
  refine OGo.by (fun _ k => XS.aloadN X0.here hx rfl (hb hby d10_26) rfl rfl k) ?_
  show OGo p e below _ (s₁.setTop (mkF m 27 #[.val (.int (Int32.ofNat i0)), .val (.int (Int32.ofNat i1)), .val (.ref a2), .val (.ref a3), .val (.int (1 : Int32)), .val (.int (1 : Int32)), .val (.int (0 : Int32))] [(.ref a2), (.ref zr)]))
  refine OGo.by (fun _ k => XS.iloadN X0.here hx rfl (hb hby d10_27) rfl k) ?_
  show OGo p e below _ (s₁.setTop (mkF m 28 #[.val (.int (Int32.ofNat i0)), .val (.int (Int32.ofNat i1)), .val (.ref a2), .val (.ref a3), .val (.int (1 : Int32)), .val (.int (1 : Int32)), .val (.int (0 : Int32))] [(.int (Int32.ofNat i0)), (.ref a2), (.ref zr)]))
  refine OGo.by (fun _ k => XS.iload X0.here hx rfl (hb hby d10_28) rfl k) ?_
  show OGo p e below _ (s₁.setTop (mkF m 30 #[.val (.int (Int32.ofNat i0)), .val (.int (Int32.ofNat i1)), .val (.ref a2), .val (.ref a3), .val (.int (1 : Int32)), .val (.int (1 : Int32)), .val (.int (0 : Int32))] [(.int (1 : Int32)), (.int (Int32.ofNat i0)), (.ref a2), (.ref zr)]))
  refine OGo.by (fun _ k => XS.imul X0.here hx rfl (hb hby d10_30) rfl k) ?_
  show OGo p e below _ (s₁.setTop (mkF m 31 #[.val (.int (Int32.ofNat i0)), .val (.int (Int32.ofNat i1)), .val (.ref a2), .val (.ref a3), .val (.int (1 : Int32)), .val (.int (1 : Int32)), .val (.int (0 : Int32))] [(.int ((Int32.ofNat i0) * (1 : Int32))), (.ref a2), (.ref zr)]))
  refine OGo.by (fun _ k => XS.iload X0.here hx rfl (hb hby d10_31) rfl k) ?_
  show OGo p e below _ (s₁.setTop (mkF m 33 #[.val (.int (Int32.ofNat i0)), .val (.int (Int32.ofNat i1)), .val (.ref a2), .val (.ref a3), .val (.int (1 : Int32)), .val (.int (1 : Int32)), .val (.int (0 : Int32))] [(.int (0 : Int32)), (.int ((Int32.ofNat i0) * (1 : Int32))), (.ref a2), (.ref zr)]))
  refine OGo.by (fun _ k => XS.iadd X0.here hx rfl (hb hby d10_33) rfl k) ?_
  show OGo p e below _ (s₁.setTop (mkF m 34 #[.val (.int (Int32.ofNat i0)), .val (.int (Int32.ofNat i1)), .val (.ref a2), .val (.ref a3), .val (.int (1 : Int32)), .val (.int (1 : Int32)), .val (.int (0 : Int32))] [(.int (((Int32.ofNat i0) * (1 : Int32)) + (0 : Int32))), (.ref a2), (.ref zr)]))
  rw [own_m1]
  show OGo p e below _ (s₁.setTop (mkF m 34 #[.val (.int (Int32.ofNat i0)), .val (.int (Int32.ofNat i1)), .val (.ref a2), .val (.ref a3), .val (.int (1 : Int32)), .val (.int (1 : Int32)), .val (.int (0 : Int32))] [(.int (Int32.ofNat i0)), (.ref a2), (.ref zr)]))
  obtain ⟨cl3, Ar3, q3, S3, M3, Hs3, G3⟩ := id A2
  have hin3 := inb_of (j := (Int32.ofNat i0)) S3 (own_in4 hi04)
  refine OGo.by (X0.iaload hx (j := (Int32.ofNat i0)) (v := (.int (R1.getD ((Int32.ofNat i0)).toNatClampNeg 0))) (by rw [e0]; exact Ar3.1) (State.isArrayOf_alike hZ.alike Ar3.2.1) Ar3.2.2 hin3 (Has.at Hs3 hin3 (own_getD _ _)) (g := (mkF m 34 #[.val (.int (Int32.ofNat i0)), .val (.int (Int32.ofNat i1)), .val (.ref a2), .val (.ref a3), .val (.int (1 : Int32)), .val (.int (1 : Int32)), .val (.int (0 : Int32))] [(.int (Int32.ofNat i0)), (.ref a2), (.ref zr)])) rfl rfl (hb hby d10_34)) ?_
  rw [own_tn (Nat.lt_of_lt_of_le hi04 (by decide))]
  show OGo p e below _ (s₁.setTop (mkF m 35 #[.val (.int (Int32.ofNat i0)), .val (.int (Int32.ofNat i1)), .val (.ref a2), .val (.ref a3), .val (.int (1 : Int32)), .val (.int (1 : Int32)), .val (.int (0 : Int32))] [(.int (R1.getD i0 0)), (.ref zr)]))
  obtain ⟨cl4, Ar4, q4, S4, M4, Hs4, G4⟩ := id AR
  have hin4 := inb_of (j := (R1.getD i0 0)) S4 (hR1.2 _ hi04)
  refine OGo.by (X0.iaload hx (j := (R1.getD i0 0)) (v := (.int (R2.getD ((R1.getD i0 0)).toNatClampNeg 0))) (by rw [e0]; exact Ar4.1) (State.isArrayOf_alike hZ.alike Ar4.2.1) Ar4.2.2 hin4 (Has.at Hs4 hin4 (own_getD _ _)) (g := (mkF m 35 #[.val (.int (Int32.ofNat i0)), .val (.int (Int32.ofNat i1)), .val (.ref a2), .val (.ref a3), .val (.int (1 : Int32)), .val (.int (1 : Int32)), .val (.int (0 : Int32))] [(.int (R1.getD i0 0)), (.ref zr)])) rfl rfl (hb hby d10_35)) ?_
  show OGo p e below _ (s₁.setTop (mkF m 36 #[.val (.int (Int32.ofNat i0)), .val (.int (Int32.ofNat i1)), .val (.ref a2), .val (.ref a3), .val (.int (1 : Int32)), .val (.int (1 : Int32)), .val (.int (0 : Int32))] [(.int (own_K R1 R2 i0))]))
  refine OGo.by (fun _ k => XS.aloadN X0.here hx rfl (hb hby d10_36) rfl rfl k) ?_
  show OGo p e below _ (s₁.setTop (mkF m 37 #[.val (.int (Int32.ofNat i0)), .val (.int (Int32.ofNat i1)), .val (.ref a2), .val (.ref a3), .val (.int (1 : Int32)), .val (.int (1 : Int32)), .val (.int (0 : Int32))] [(.ref a3), (.int (own_K R1 R2 i0))]))
  refine OGo.by (fun _ k => XS.iload X0.here hx rfl (hb hby d10_37) rfl k) ?_
  show OGo p e below _ (s₁.setTop (mkF m 39 #[.val (.int (Int32.ofNat i0)), .val (.int (Int32.ofNat i1)), .val (.ref a2), .val (.ref a3), .val (.int (1 : Int32)), .val (.int (1 : Int32)), .val (.int (0 : Int32))] [(.int (0 : Int32)), (.ref a3), (.int (own_K R1 R2 i0))]))
  obtain ⟨cl5, Ar5, q5, S5, M5, Hs5, G5⟩ := id AN
  have hin5 := inb_of (j := (0 : Int32)) S5 ⟨(by decide), (by decide)⟩
  refine OGo.by (X0.aaload hx (j := (0 : Int32)) (v := (.ref zr)) (by rw [e0]; exact Ar5.1) (State.isArrayOf_alike hZ.alike Ar5.2.1) rfl Ar5.2.2 hin5 (Has.at Hs5 hin5 rfl) (g := (mkF m 39 #[.val (.int (Int32.ofNat i0)), .val (.int (Int32.ofNat i1)), .val (.ref a2), .val (.ref a3), .val (.int (1 : Int32)), .val (.int (1 : Int32)), .val (.int (0 : Int32))] [(.int (0 : Int32)), (.ref a3), (.int (own_K R1 R2 i0))])) rfl rfl (hb hby d10_39)) ?_
  show OGo p e below _ (s₁.setTop (mkF m 40 #[.val (.int (Int32.ofNat i0)), .val (.int (Int32.ofNat i1)), .val (.ref a2), .val (.ref a3), .val (.int (1 : Int32)), .val (.int (1 : Int32)), .val (.int (0 : Int32))] [(.ref zr), (.int (own_K R1 R2 i0))]))
  refine OGo.by (fun _ k => XS.aloadN X0.here hx rfl (hb hby d10_40) rfl rfl k) ?_
  show OGo p e below _ (s₁.setTop (mkF m 41 #[.val (.int (Int32.ofNat i0)), .val (.int (Int32.ofNat i1)), .val (.ref a2), .val (.ref a3), .val (.int (1 : Int32)), .val (.int (1 : Int32)), .val (.int (0 : Int32))] [(.ref a2), (.ref zr), (.int (own_K R1 R2 i0))]))
  refine OGo.by (fun _ k => XS.iloadN X0.here hx rfl (hb hby d10_41) rfl k) ?_
  show OGo p e below _ (s₁.setTop (mkF m 42 #[.val (.int (Int32.ofNat i0)), .val (.int (Int32.ofNat i1)), .val (.ref a2), .val (.ref a3), .val (.int (1 : Int32)), .val (.int (1 : Int32)), .val (.int (0 : Int32))] [(.int (Int32.ofNat i1)), (.ref a2), (.ref zr), (.int (own_K R1 R2 i0))]))
  refine OGo.by (fun _ k => XS.iload X0.here hx rfl (hb hby d10_42) rfl k) ?_
  show OGo p e below _ (s₁.setTop (mkF m 44 #[.val (.int (Int32.ofNat i0)), .val (.int (Int32.ofNat i1)), .val (.ref a2), .val (.ref a3), .val (.int (1 : Int32)), .val (.int (1 : Int32)), .val (.int (0 : Int32))] [(.int (1 : Int32)), (.int (Int32.ofNat i1)), (.ref a2), (.ref zr), (.int (own_K R1 R2 i0))]))
  refine OGo.by (fun _ k => XS.imul X0.here hx rfl (hb hby d10_44) rfl k) ?_
  show OGo p e below _ (s₁.setTop (mkF m 45 #[.val (.int (Int32.ofNat i0)), .val (.int (Int32.ofNat i1)), .val (.ref a2), .val (.ref a3), .val (.int (1 : Int32)), .val (.int (1 : Int32)), .val (.int (0 : Int32))] [(.int ((Int32.ofNat i1) * (1 : Int32))), (.ref a2), (.ref zr), (.int (own_K R1 R2 i0))]))
  refine OGo.by (fun _ k => XS.iload X0.here hx rfl (hb hby d10_45) rfl k) ?_
  show OGo p e below _ (s₁.setTop (mkF m 47 #[.val (.int (Int32.ofNat i0)), .val (.int (Int32.ofNat i1)), .val (.ref a2), .val (.ref a3), .val (.int (1 : Int32)), .val (.int (1 : Int32)), .val (.int (0 : Int32))] [(.int (0 : Int32)), (.int ((Int32.ofNat i1) * (1 : Int32))), (.ref a2), (.ref zr), (.int (own_K R1 R2 i0))]))
  refine OGo.by (fun _ k => XS.iadd X0.here hx rfl (hb hby d10_47) rfl k) ?_
  show OGo p e below _ (s₁.setTop (mkF m 48 #[.val (.int (Int32.ofNat i0)), .val (.int (Int32.ofNat i1)), .val (.ref a2), .val (.ref a3), .val (.int (1 : Int32)), .val (.int (1 : Int32)), .val (.int (0 : Int32))] [(.int (((Int32.ofNat i1) * (1 : Int32)) + (0 : Int32))), (.ref a2), (.ref zr), (.int (own_K R1 R2 i0))]))
  rw [own_m1]
  show OGo p e below _ (s₁.setTop (mkF m 48 #[.val (.int (Int32.ofNat i0)), .val (.int (Int32.ofNat i1)), .val (.ref a2), .val (.ref a3), .val (.int (1 : Int32)), .val (.int (1 : Int32)), .val (.int (0 : Int32))] [(.int (Int32.ofNat i1)), (.ref a2), (.ref zr), (.int (own_K R1 R2 i0))]))
  obtain ⟨cl6, Ar6, q6, S6, M6, Hs6, G6⟩ := id A2
  have hin6 := inb_of (j := (Int32.ofNat i1)) S6 (own_in4 hi14)
  refine OGo.by (X0.iaload hx (j := (Int32.ofNat i1)) (v := (.int (R1.getD ((Int32.ofNat i1)).toNatClampNeg 0))) (by rw [e0]; exact Ar6.1) (State.isArrayOf_alike hZ.alike Ar6.2.1) Ar6.2.2 hin6 (Has.at Hs6 hin6 (own_getD _ _)) (g := (mkF m 48 #[.val (.int (Int32.ofNat i0)), .val (.int (Int32.ofNat i1)), .val (.ref a2), .val (.ref a3), .val (.int (1 : Int32)), .val (.int (1 : Int32)), .val (.int (0 : Int32))] [(.int (Int32.ofNat i1)), (.ref a2), (.ref zr), (.int (own_K R1 R2 i0))])) rfl rfl (hb hby d10_48)) ?_
  rw [own_tn (Nat.lt_of_lt_of_le hi14 (by decide))]
  show OGo p e below _ (s₁.setTop (mkF m 49 #[.val (.int (Int32.ofNat i0)), .val (.int (Int32.ofNat i1)), .val (.ref a2), .val (.ref a3), .val (.int (1 : Int32)), .val (.int (1 : Int32)), .val (.int (0 : Int32))] [(.int (R1.getD i1 0)), (.ref zr), (.int (own_K R1 R2 i0))]))
  obtain ⟨cl7, Ar7, q7, S7, M7, Hs7, G7⟩ := id AR
  have hin7 := inb_of (j := (R1.getD i1 0)) S7 (hR1.2 _ hi14)
  refine OGo.by (X0.iaload hx (j := (R1.getD i1 0)) (v := (.int (R2.getD ((R1.getD i1 0)).toNatClampNeg 0))) (by rw [e0]; exact Ar7.1) (State.isArrayOf_alike hZ.alike Ar7.2.1) Ar7.2.2 hin7 (Has.at Hs7 hin7 (own_getD _ _)) (g := (mkF m 49 #[.val (.int (Int32.ofNat i0)), .val (.int (Int32.ofNat i1)), .val (.ref a2), .val (.ref a3), .val (.int (1 : Int32)), .val (.int (1 : Int32)), .val (.int (0 : Int32))] [(.int (R1.getD i1 0)), (.ref zr), (.int (own_K R1 R2 i0))])) rfl rfl (hb hby d10_49)) ?_
  show OGo p e below _ (s₁.setTop (mkF m 50 #[.val (.int (Int32.ofNat i0)), .val (.int (Int32.ofNat i1)), .val (.ref a2), .val (.ref a3), .val (.int (1 : Int32)), .val (.int (1 : Int32)), .val (.int (0 : Int32))] [(.int (own_K R1 R2 i1)), (.int (own_K R1 R2 i0))]))
  by_cases hc50_8 : (own_K R1 R2 i0) = (own_K R1 R2 i1)
  · refine OGo.by (fun _ k => XS.icmpNo X0.here hx rfl (hb hby d10_50) rfl (teq hc50_8).2 k) ?_
    show OGo p e below _ (s₁.setTop (mkF m 53 #[.val (.int (Int32.ofNat i0)), .val (.int (Int32.ofNat i1)), .val (.ref a2), .val (.ref a3), .val (.int (1 : Int32)), .val (.int (1 : Int32)), .val (.int (0 : Int32))] []))
    refine OGo.by (fun _ k => XS.iconst X0.here hx rfl (hb hby d10_53) k) ?_
    show OGo p e below _ (s₁.setTop (mkF m 54 #[.val (.int (Int32.ofNat i0)), .val (.int (Int32.ofNat i1)), .val (.ref a2), .val (.ref a3), .val (.int (1 : Int32)), .val (.int (1 : Int32)), .val (.int (0 : Int32))] [(.int (1 : Int32))]))
    refine OGo.by (fun _ k => XS.goto X0.here hx rfl (pc0 := 54) (pc' := 58) rfl (hb hby d10_54) (by decide) (by decide) k) ?_
    show OGo p e below _ (s₁.setTop (mkF m 58 #[.val (.int (Int32.ofNat i0)), .val (.int (Int32.ofNat i1)), .val (.ref a2), .val (.ref a3), .val (.int (1 : Int32)), .val (.int (1 : Int32)), .val (.int (0 : Int32))] [(.int (1 : Int32))]))
    refine OGo.by (fun _ k => XS.istore X0.here hx rfl (hb hby d10_58) rfl (l' := #[.val (.int (Int32.ofNat i0)), .val (.int (Int32.ofNat i1)), .val (.ref a2), .val (.ref a3), .val (.int (1 : Int32)), .val (.int (1 : Int32)), .val (.int (0 : Int32))]) rfl k) ?_
    show OGo p e below _ (s₁.setTop (mkF m 60 #[.val (.int (Int32.ofNat i0)), .val (.int (Int32.ofNat i1)), .val (.ref a2), .val (.ref a3), .val (.int (1 : Int32)), .val (.int (1 : Int32)), .val (.int (0 : Int32))] []))
    refine OGo.by (fun _ k => XS.iinc X0.here hx rfl (hb hby d10_60) rfl (l' := #[.val (.int (Int32.ofNat i0)), .val (.int (Int32.ofNat i1)), .val (.ref a2), .val (.ref a3), .val (.int (1 : Int32)), .val (.int (1 : Int32)), .val (.int (1 : Int32))]) rfl k) ?_
    show OGo p e below _ (s₁.setTop (mkF m 63 #[.val (.int (Int32.ofNat i0)), .val (.int (Int32.ofNat i1)), .val (.ref a2), .val (.ref a3), .val (.int (1 : Int32)), .val (.int (1 : Int32)), .val (.int (1 : Int32))] []))
    refine OGo.by (fun _ k => XS.goto X0.here hx rfl (pc0 := 63) (pc' := 10) rfl (hb hby d10_63) (by decide) (by decide) k) ?_
    show OGo p e below _ (s₁.setTop (mkF m 10 #[.val (.int (Int32.ofNat i0)), .val (.int (Int32.ofNat i1)), .val (.ref a2), .val (.ref a3), .val (.int (1 : Int32)), .val (.int (1 : Int32)), .val (.int (1 : Int32))] []))
    refine OGo.by (fun _ k => XS.iload X0.here hx rfl (hb hby d10_10) rfl k) ?_
    show OGo p e below _ (s₁.setTop (mkF m 12 #[.val (.int (Int32.ofNat i0)), .val (.int (Int32.ofNat i1)), .val (.ref a2), .val (.ref a3), .val (.int (1 : Int32)), .val (.int (1 : Int32)), .val (.int (1 : Int32))] [(.int (1 : Int32))]))
    refine OGo.by (fun _ k => XS.iload X0.here hx rfl (hb hby d10_12) rfl k) ?_
    show OGo p e below _ (s₁.setTop (mkF m 14 #[.val (.int (Int32.ofNat i0)), .val (.int (Int32.ofNat i1)), .val (.ref a2), .val (.ref a3), .val (.int (1 : Int32)), .val (.int (1 : Int32)), .val (.int (1 : Int32))] [(.int (1 : Int32)), (.int (1 : Int32))]))
    refine OGo.by (fun _ k => XS.icmpYes X0.here hx rfl (pc0 := 14) (pc' := 66) rfl (hb hby d10_14) rfl (flt (by decide : ¬ ((1 : Int32) < (1 : Int32)))).2.1 (by decide) (by decide) k) ?_
    show OGo p e below _ (s₁.setTop (mkF m 66 #[.val (.int (Int32.ofNat i0)), .val (.int (Int32.ofNat i1)), .val (.ref a2), .val (.ref a3), .val (.int (1 : Int32)), .val (.int (1 : Int32)), .val (.int (1 : Int32))] []))
    refine OGo.by (fun _ k => XS.iload X0.here hx rfl (hb hby d10_66) rfl k) ?_
    show OGo p e below _ (s₁.setTop (mkF m 68 #[.val (.int (Int32.ofNat i0)), .val (.int (Int32.ofNat i1)), .val (.ref a2), .val (.ref a3), .val (.int (1 : Int32)), .val (.int (1 : Int32)), .val (.int (1 : Int32))] [(.int (1 : Int32))]))
    obtain ⟨fs, hr, hrun, hended, hW, hsame⟩ := X0.leave (v := some (.int (1 : Int32))) (fun h => by rw [Bd.returns] at h; cases h)
    refine OGo.ret (retN X0 hx (t := .boolean) Bd.returns (by simp) (hb hby d10_68) hr) hrun hended ⟨_, _, rfl, ?_, ⟨_, rfl⟩, hW, hsame.mono (by decide) (by decide)⟩
    show Q_rm_al Z a2 a3 i0 i1 zr kv kr kn R1 R2 h0 n0 _ s₁.heap _
    rw [e0]
    exact ⟨congrArg (fun z => some (Value.int z)) (show _ = own_eq _ _ from (if_pos hc50_8).symm), N0, rfl⟩
  · refine OGo.by (fun _ k => XS.icmpYes X0.here hx rfl (pc0 := 50) (pc' := 57) rfl (hb hby d10_50) rfl (feq hc50_8).2 (by decide) (by decide) k) ?_
    show OGo p e below _ (s₁.setTop (mkF m 57 #[.val (.int (Int32.ofNat i0)), .val (.int (Int32.ofNat i1)), .val (.ref a2), .val (.ref a3), .val (.int (1 : Int32)), .val (.int (1 : Int32)), .val (.int (0 : Int32))] []))
    refine OGo.by (fun _ k => XS.iconst X0.here hx rfl (hb hby d10_57) k) ?_
    show OGo p e below _ (s₁.setTop (mkF m 58 #[.val (.int (Int32.ofNat i0)), .val (.int (Int32.ofNat i1)), .val (.ref a2), .val (.ref a3), .val (.int (1 : Int32)), .val (.int (1 : Int32)), .val (.int (0 : Int32))] [(.int (0 : Int32))]))
    refine OGo.by (fun _ k => XS.istore X0.here hx rfl (hb hby d10_58) rfl (l' := #[.val (.int (Int32.ofNat i0)), .val (.int (Int32.ofNat i1)), .val (.ref a2), .val (.ref a3), .val (.int (1 : Int32)), .val (.int (0 : Int32)), .val (.int (0 : Int32))]) rfl k) ?_
    show OGo p e below _ (s₁.setTop (mkF m 60 #[.val (.int (Int32.ofNat i0)), .val (.int (Int32.ofNat i1)), .val (.ref a2), .val (.ref a3), .val (.int (1 : Int32)), .val (.int (0 : Int32)), .val (.int (0 : Int32))] []))
    refine OGo.by (fun _ k => XS.iinc X0.here hx rfl (hb hby d10_60) rfl (l' := #[.val (.int (Int32.ofNat i0)), .val (.int (Int32.ofNat i1)), .val (.ref a2), .val (.ref a3), .val (.int (1 : Int32)), .val (.int (0 : Int32)), .val (.int (1 : Int32))]) rfl k) ?_
    show OGo p e below _ (s₁.setTop (mkF m 63 #[.val (.int (Int32.ofNat i0)), .val (.int (Int32.ofNat i1)), .val (.ref a2), .val (.ref a3), .val (.int (1 : Int32)), .val (.int (0 : Int32)), .val (.int (1 : Int32))] []))
    refine OGo.by (fun _ k => XS.goto X0.here hx rfl (pc0 := 63) (pc' := 10) rfl (hb hby d10_63) (by decide) (by decide) k) ?_
    show OGo p e below _ (s₁.setTop (mkF m 10 #[.val (.int (Int32.ofNat i0)), .val (.int (Int32.ofNat i1)), .val (.ref a2), .val (.ref a3), .val (.int (1 : Int32)), .val (.int (0 : Int32)), .val (.int (1 : Int32))] []))
    refine OGo.by (fun _ k => XS.iload X0.here hx rfl (hb hby d10_10) rfl k) ?_
    show OGo p e below _ (s₁.setTop (mkF m 12 #[.val (.int (Int32.ofNat i0)), .val (.int (Int32.ofNat i1)), .val (.ref a2), .val (.ref a3), .val (.int (1 : Int32)), .val (.int (0 : Int32)), .val (.int (1 : Int32))] [(.int (1 : Int32))]))
    refine OGo.by (fun _ k => XS.iload X0.here hx rfl (hb hby d10_12) rfl k) ?_
    show OGo p e below _ (s₁.setTop (mkF m 14 #[.val (.int (Int32.ofNat i0)), .val (.int (Int32.ofNat i1)), .val (.ref a2), .val (.ref a3), .val (.int (1 : Int32)), .val (.int (0 : Int32)), .val (.int (1 : Int32))] [(.int (1 : Int32)), (.int (1 : Int32))]))
    refine OGo.by (fun _ k => XS.icmpYes X0.here hx rfl (pc0 := 14) (pc' := 66) rfl (hb hby d10_14) rfl (flt (by decide : ¬ ((1 : Int32) < (1 : Int32)))).2.1 (by decide) (by decide) k) ?_
    show OGo p e below _ (s₁.setTop (mkF m 66 #[.val (.int (Int32.ofNat i0)), .val (.int (Int32.ofNat i1)), .val (.ref a2), .val (.ref a3), .val (.int (1 : Int32)), .val (.int (0 : Int32)), .val (.int (1 : Int32))] []))
    refine OGo.by (fun _ k => XS.iload X0.here hx rfl (hb hby d10_66) rfl k) ?_
    show OGo p e below _ (s₁.setTop (mkF m 68 #[.val (.int (Int32.ofNat i0)), .val (.int (Int32.ofNat i1)), .val (.ref a2), .val (.ref a3), .val (.int (1 : Int32)), .val (.int (0 : Int32)), .val (.int (1 : Int32))] [(.int (0 : Int32))]))
    obtain ⟨fs, hr, hrun, hended, hW, hsame⟩ := X0.leave (v := some (.int (0 : Int32))) (fun h => by rw [Bd.returns] at h; cases h)
    refine OGo.ret (retN X0 hx (t := .boolean) Bd.returns (by simp) (hb hby d10_68) hr) hrun hended ⟨_, _, rfl, ?_, ⟨_, rfl⟩, hW, hsame.mono (by decide) (by decide)⟩
    show Q_rm_al Z a2 a3 i0 i1 zr kv kr kn R1 R2 h0 n0 _ s₁.heap _
    rw [e0]
    exact ⟨congrArg (fun z => some (Value.int z)) (show _ = own_eq _ _ from (if_neg hc50_8).symm), N0, rfl⟩
theorem d7_0 : decode prog_1_method_2_code 0 = .ok (.iconst 0, 1) := by decide +kernel
theorem d7_1 : decode prog_1_method_2_code 1 = .ok (.istore 5, 2) := by decide +kernel
theorem d7_3 : decode prog_1_method_2_code 3 = .ok (.iload 5, 2) := by decide +kernel
theorem d7_5 : decode prog_1_method_2_code 5 = .ok (.aload_n 0, 1) := by decide +kernel
theorem d7_6 : decode prog_1_method_2_code 6 = .ok (.getfield 43, 3) := by decide +kernel
theorem d7_9 : decode prog_1_method_2_code 9 = .ok (.if_icmp .ge 22, 3) := by decide +kernel
theorem d7_31 : decode prog_1_method_2_code 31 = .ok (.aload_n 0, 1) := by decide +kernel
theorem d7_32 : decode prog_1_method_2_code 32 = .ok (.aload_n 1, 1) := by decide +kernel
theorem d7_33 : decode prog_1_method_2_code 33 = .ok (.putfield 46, 3) := by decide +kernel
theorem d7_36 : decode prog_1_method_2_code 36 = .ok (.aload_n 0, 1) := by decide +kernel
theorem d7_37 : decode prog_1_method_2_code 37 = .ok (.iconst 0, 1) := by decide +kernel
theorem d7_38 : decode prog_1_method_2_code 38 = .ok (.putfield 43, 3) := by decide +kernel
theorem d7_41 : decode prog_1_method_2_code 41 = .ok (.aload 4, 2) := by decide +kernel
theorem d7_43 : decode prog_1_method_2_code 43 = .ok (.arraylength, 1) := by decide +kernel
theorem d7_44 : decode prog_1_method_2_code 44 = .ok (.istore 5, 2) := by decide +kernel
theorem d7_46 : decode prog_1_method_2_code 46 = .ok (.iconst 0, 1) := by decide +kernel
theorem d7_47 : decode prog_1_method_2_code 47 = .ok (.istore 6, 2) := by decide +kernel
theorem d7_49 : decode prog_1_method_2_code 49 = .ok (.iload 6, 2) := by decide +kernel
theorem d7_51 : decode prog_1_method_2_code 51 = .ok (.iload_n 2, 1) := by decide +kernel
theorem d7_52 : decode prog_1_method_2_code 52 = .ok (.if_icmp .ge 168, 3) := by decide +kernel
theorem d7_220 : decode prog_1_method_2_code 220 = .ok (.return_, 1) := by decide +kernel
theorem d7_55 : decode prog_1_method_2_code 55 = .ok (.aload_n 1, 1) := by decide +kernel
theorem d7_56 : decode prog_1_method_2_code 56 = .ok (.iload 6, 2) := by decide +kernel
theorem d7_58 : decode prog_1_method_2_code 58 = .ok (.iaload, 1) := by decide +kernel
theorem d7_59 : decode prog_1_method_2_code 59 = .ok (.istore 7, 2) := by decide +kernel
theorem d7_61 : decode prog_1_method_2_code 61 = .ok (.lconst 0, 1) := by decide +kernel
theorem d7_62 : decode prog_1_method_2_code 62 = .ok (.lstore 8, 2) := by decide +kernel
theorem d7_64 : decode prog_1_method_2_code 64 = .ok (.iconst 0, 1) := by decide +kernel
theorem d7_65 : decode prog_1_method_2_code 65 = .ok (.istore 10, 2) := by decide +kernel
theorem d7_67 : decode prog_1_method_2_code 67 = .ok (.iload 10, 2) := by decide +kernel
theorem d7_69 : decode prog_1_method_2_code 69 = .ok (.iload 5, 2) := by decide +kernel
theorem d7_71 : decode prog_1_method_2_code 71 = .ok (.if_icmp .ge 35, 3) := by decide +kernel
theorem d7_74 : decode prog_1_method_2_code 74 = .ok (.lload 8, 2) := by decide +kernel
theorem d7_76 : decode prog_1_method_2_code 76 = .ok (.aload 4, 2) := by decide +kernel
theorem d7_78 : decode prog_1_method_2_code 78 = .ok (.iload 10, 2) := by decide +kernel
theorem d7_80 : decode prog_1_method_2_code 80 = .ok (.aaload, 1) := by decide +kernel
theorem d7_81 : decode prog_1_method_2_code 81 = .ok (.aload_n 3, 1) := by decide +kernel
theorem d7_82 : decode prog_1_method_2_code 82 = .ok (.iload 7, 2) := by decide +kernel
theorem d7_84 : decode prog_1_method_2_code 84 = .ok (.iload 5, 2) := by decide +kernel
theorem d7_86 : decode prog_1_method_2_code 86 = .ok (.imul, 1) := by decide +kernel
theorem d7_87 : decode prog_1_method_2_code 87 = .ok (.iload 10, 2) := by decide +kernel
theorem d7_89 : decode prog_1_method_2_code 89 = .ok (.iadd, 1) := by decide +kernel
theorem d7_90 : decode prog_1_method_2_code 90 = .ok (.iaload, 1) := by decide +kernel
theorem d7_91 : decode prog_1_method_2_code 91 = .ok (.iaload, 1) := by decide +kernel
theorem d7_92 : decode prog_1_method_2_code 92 = .ok (.i2l, 1) := by decide +kernel
theorem d7_93 : decode prog_1_method_2_code 93 = .ok (.lxor, 1) := by decide +kernel
theorem d7_94 : decode prog_1_method_2_code 94 = .ok (.ldc2_w 49, 3) := by decide +kernel
theorem d7_97 : decode prog_1_method_2_code 97 = .ok (.lmul, 1) := by decide +kernel
theorem d7_98 : decode prog_1_method_2_code 98 = .ok (.lstore 8, 2) := by decide +kernel
theorem d7_100 : decode prog_1_method_2_code 100 = .ok (.iinc 10 1, 3) := by decide +kernel
theorem d7_103 : decode prog_1_method_2_code 103 = .ok (.goto (-36), 3) := by decide +kernel
theorem d7_106 : decode prog_1_method_2_code 106 = .ok (.lload 8, 2) := by decide +kernel
theorem d7_108 : decode prog_1_method_2_code 108 = .ok (.aload_n 0, 1) := by decide +kernel
theorem d7_109 : decode prog_1_method_2_code 109 = .ok (.getfield 39, 3) := by decide +kernel
theorem d7_112 : decode prog_1_method_2_code 112 = .ok (.lushr, 1) := by decide +kernel
theorem d7_113 : decode prog_1_method_2_code 113 = .ok (.l2i, 1) := by decide +kernel
theorem d7_114 : decode prog_1_method_2_code 114 = .ok (.istore 10, 2) := by decide +kernel
theorem d7_163 : decode prog_1_method_2_code 163 = .ok (.aload_n 0, 1) := by decide +kernel
theorem d7_164 : decode prog_1_method_2_code 164 = .ok (.getfield 21, 3) := by decide +kernel
theorem d7_167 : decode prog_1_method_2_code 167 = .ok (.iload 10, 2) := by decide +kernel
theorem d7_169 : decode prog_1_method_2_code 169 = .ok (.iaload, 1) := by decide +kernel
theorem d7_170 : decode prog_1_method_2_code 170 = .ok (.ifCond .ge 21, 3) := by decide +kernel
theorem d7_173 : decode prog_1_method_2_code 173 = .ok (.aload_n 0, 1) := by decide +kernel
theorem d7_174 : decode prog_1_method_2_code 174 = .ok (.getfield 36, 3) := by decide +kernel
theorem d7_177 : decode prog_1_method_2_code 177 = .ok (.aload_n 0, 1) := by decide +kernel
theorem d7_178 : decode prog_1_method_2_code 178 = .ok (.dup, 1) := by decide +kernel
theorem d7_179 : decode prog_1_method_2_code 179 = .ok (.getfield 43, 3) := by decide +kernel
theorem d7_182 : decode prog_1_method_2_code 182 = .ok (.dup_x1, 1) := by decide +kernel
theorem d7_183 : decode prog_1_method_2_code 183 = .ok (.iconst 1, 1) := by decide +kernel
theorem d7_184 : decode prog_1_method_2_code 184 = .ok (.iadd, 1) := by decide +kernel
theorem d7_185 : decode prog_1_method_2_code 185 = .ok (.putfield 43, 3) := by decide +kernel
theorem d7_188 : decode prog_1_method_2_code 188 = .ok (.iload 10, 2) := by decide +kernel
theorem d7_190 : decode prog_1_method_2_code 190 = .ok (.iastore, 1) := by decide +kernel
theorem d7_191 : decode prog_1_method_2_code 191 = .ok (.aload_n 0, 1) := by decide +kernel
theorem d7_192 : decode prog_1_method_2_code 192 = .ok (.getfield 33, 3) := by decide +kernel
theorem d7_195 : decode prog_1_method_2_code 195 = .ok (.iload 6, 2) := by decide +kernel
theorem d7_197 : decode prog_1_method_2_code 197 = .ok (.aload_n 0, 1) := by decide +kernel
theorem d7_198 : decode prog_1_method_2_code 198 = .ok (.getfield 21, 3) := by decide +kernel
theorem d7_201 : decode prog_1_method_2_code 201 = .ok (.iload 10, 2) := by decide +kernel
theorem d7_203 : decode prog_1_method_2_code 203 = .ok (.iaload, 1) := by decide +kernel
theorem d7_204 : decode prog_1_method_2_code 204 = .ok (.iastore, 1) := by decide +kernel
theorem d7_205 : decode prog_1_method_2_code 205 = .ok (.aload_n 0, 1) := by decide +kernel
theorem d7_206 : decode prog_1_method_2_code 206 = .ok (.getfield 21, 3) := by decide +kernel
theorem d7_209 : decode prog_1_method_2_code 209 = .ok (.iload 10, 2) := by decide +kernel
theorem d7_211 : decode prog_1_method_2_code 211 = .ok (.iload 6, 2) := by decide +kernel
theorem d7_213 : decode prog_1_method_2_code 213 = .ok (.iastore, 1) := by decide +kernel
theorem d7_214 : decode prog_1_method_2_code 214 = .ok (.iinc 6 1, 3) := by decide +kernel
theorem d7_217 : decode prog_1_method_2_code 217 = .ok (.goto (-168), 3) := by decide +kernel
theorem d7_116 : decode prog_1_method_2_code 116 = .ok (.aload_n 0, 1) := by decide +kernel
theorem d7_117 : decode prog_1_method_2_code 117 = .ok (.getfield 21, 3) := by decide +kernel
theorem d7_120 : decode prog_1_method_2_code 120 = .ok (.iload 10, 2) := by decide +kernel
theorem d7_122 : decode prog_1_method_2_code 122 = .ok (.iaload, 1) := by decide +kernel
theorem d7_123 : decode prog_1_method_2_code 123 = .ok (.ifCond .lt 40, 3) := by decide +kernel
theorem d7_126 : decode prog_1_method_2_code 126 = .ok (.iload 7, 2) := by decide +kernel
theorem d7_128 : decode prog_1_method_2_code 128 = .ok (.aload_n 1, 1) := by decide +kernel
theorem d7_129 : decode prog_1_method_2_code 129 = .ok (.aload_n 0, 1) := by decide +kernel
theorem d7_130 : decode prog_1_method_2_code 130 = .ok (.getfield 21, 3) := by decide +kernel
theorem d7_133 : decode prog_1_method_2_code 133 = .ok (.iload 10, 2) := by decide +kernel
theorem d7_135 : decode prog_1_method_2_code 135 = .ok (.iaload, 1) := by decide +kernel
theorem d7_136 : decode prog_1_method_2_code 136 = .ok (.iaload, 1) := by decide +kernel
theorem d7_137 : decode prog_1_method_2_code 137 = .ok (.aload_n 3, 1) := by decide +kernel
theorem d7_138 : decode prog_1_method_2_code 138 = .ok (.aload 4, 2) := by decide +kernel
theorem d7_140 : decode prog_1_method_2_code 140 = .ok (.invokestatic 51, 3) := by decide +kernel
theorem own_pd4 : parseMethodDescriptor "(II[I[[I)Z" = some ⟨[.int, .int, (.array .int), (.array (.array .int))], some .boolean⟩ := by decide +kernel
theorem d7_143 : decode prog_1_method_2_code 143 = .ok (.ifCond .ne 20, 3) := by decide +kernel
theorem d7_146 : decode prog_1_method_2_code 146 = .ok (.iload 10, 2) := by decide +kernel
theorem d7_148 : decode prog_1_method_2_code 148 = .ok (.iconst 1, 1) := by decide +kernel
theorem d7_149 : decode prog_1_method_2_code 149 = .ok (.iadd, 1) := by decide +kernel
theorem d7_150 : decode prog_1_method_2_code 150 = .ok (.aload_n 0, 1) := by decide +kernel
theorem d7_151 : decode prog_1_method_2_code 151 = .ok (.getfield 21, 3) := by decide +kernel
theorem d7_154 : decode prog_1_method_2_code 154 = .ok (.arraylength, 1) := by decide +kernel
theorem d7_155 : decode prog_1_method_2_code 155 = .ok (.iconst 1, 1) := by decide +kernel
theorem d7_156 : decode prog_1_method_2_code 156 = .ok (.isub, 1) := by decide +kernel
theorem d7_157 : decode prog_1_method_2_code 157 = .ok (.iand, 1) := by decide +kernel
theorem d7_158 : decode prog_1_method_2_code 158 = .ok (.istore 10, 2) := by decide +kernel
theorem d7_160 : decode prog_1_method_2_code 160 = .ok (.goto (-44), 3) := by decide +kernel
theorem d7_12 : decode prog_1_method_2_code 12 = .ok (.aload_n 0, 1) := by decide +kernel
theorem d7_13 : decode prog_1_method_2_code 13 = .ok (.getfield 21, 3) := by decide +kernel
theorem d7_16 : decode prog_1_method_2_code 16 = .ok (.aload_n 0, 1) := by decide +kernel
theorem d7_17 : decode prog_1_method_2_code 17 = .ok (.getfield 36, 3) := by decide +kernel
theorem d7_20 : decode prog_1_method_2_code 20 = .ok (.iload 5, 2) := by decide +kernel
theorem d7_22 : decode prog_1_method_2_code 22 = .ok (.iaload, 1) := by decide +kernel
theorem d7_23 : decode prog_1_method_2_code 23 = .ok (.iconst (-1), 1) := by decide +kernel
theorem d7_24 : decode prog_1_method_2_code 24 = .ok (.iastore, 1) := by decide +kernel
theorem d7_25 : decode prog_1_method_2_code 25 = .ok (.iinc 5 1, 3) := by decide +kernel
theorem d7_28 : decode prog_1_method_2_code 28 = .ok (.goto (-25), 3) := by decide +kernel
theorem own_pn7 : plainName "com/example/faces_into_crowds/facesintocrowds/Buckets" = true := by first | (simp [plainName, overriddenIn]; done) | decide +kernel
theorem ef_rm_so (m : MethodId) (a0 : Addr) (a1 : Addr) (a3 : Addr) (a4 : Addr) (cnt : Nat) (mm : Nat) (cc : Nat) (nb : Nat) (ml : Int32) (sh : Int32) (cpI : Int32) (wu : Value) (zf : Addr) (zs : Addr) (zn : Addr) (zr : Addr) (ku : ClassId) (kv : ClassId) (kr : ClassId) (kn : ClassId) (kf : ClassId) (ks : ClassId) (kx : ClassId) (R1 : List Int32) (R2 : List Int32) (lF : List Int32) (lS : List Int32) (lX : List Int32) : entryFrame m #[(.ref a0), (.ref a1), (.int (Int32.ofNat cnt)), (.ref a3), (.ref a4)] 11 = mkF m 0 #[.val (.ref a0), .val (.ref a1), .val (.int (Int32.ofNat cnt)), .val (.ref a3), .val (.ref a4), .unset, .unset, .unset, .unset, .unset, .unset] [] := by first | (simp [entryFrame, mkF, argsToLocals, Value.category]; done) | rfl
def Q_rm_so (Z : State) (a0 : Addr) (a1 : Addr) (a3 : Addr) (a4 : Addr) (cnt : Nat) (mm : Nat) (cc : Nat) (nb : Nat) (ml : Int32) (sh : Int32) (cpI : Int32) (wu : Value) (zf : Addr) (zs : Addr) (zn : Addr) (zr : Addr) (ku : ClassId) (kv : ClassId) (kr : ClassId) (kn : ClassId) (kf : ClassId) (ks : ClassId) (kx : ClassId) (R1 : List Int32) (R2 : List Int32) (lF : List Int32) (lS : List Int32) (lX : List Int32) (h0 : Heap) (n0 : Nat) (v : Option Value) (h : Heap) (L : List Loc) : Prop := ∃ mF : List Int32, ∃ mS : List Int32, ∃ mX : List Int32, ∃ mb : Nat, v = none ∧ Fr n0 L ∧ Keep h0 h [a0, zf, zs, zn] ∧ (own_Inv (own_K R1 R2) (own_h sh) mm cc cnt mF mS mb) ∧ (mX.length = cc) ∧ (Exa Z h a0 "com/example/faces_into_crowds/facesintocrowds/Buckets") ∧ (Fld Z h a0 "com/example/faces_into_crowds/facesintocrowds/Buckets" "mFirst" "[I" (.ref zf)) ∧ (Fld Z h a0 "com/example/faces_into_crowds/facesintocrowds/Buckets" "mSlots" "[I" (.ref zs)) ∧ (Fld Z h a0 "com/example/faces_into_crowds/facesintocrowds/Buckets" "mNext" "[I" (.ref zn)) ∧ (Fld Z h a0 "com/example/faces_into_crowds/facesintocrowds/Buckets" "mShift" "I" (.int sh)) ∧ (Fld Z h a0 "com/example/faces_into_crowds/facesintocrowds/Buckets" "mBuckets" "I" (.int (Int32.ofNat mb))) ∧ (Fld Z h a0 "com/example/faces_into_crowds/facesintocrowds/Buckets" "mUnits" "[I" (.ref a1)) ∧ (Arv Z h zf kf .int ml (mF.map Value.int) (.int (0 : Int32))) ∧ (Arv Z h zs ks .int cpI (mS.map Value.int) (.int (0 : Int32))) ∧ (Arv Z h zn kx .int cpI (mX.map Value.int) (.int (0 : Int32)))
set_option maxRecDepth 65536 in
set_option maxHeartbeats 40000000 in
theorem rm_so (l : Launch) (Z : State) (av0 : Array Value) (hw : ∀ d ∈ tables_1, d.before av0 Z = true) (ws : List Jvm.Cond) (a0 : Addr) (a1 : Addr) (a3 : Addr) (a4 : Addr) (cnt : Nat) (mm : Nat) (cc : Nat) (nb : Nat) (ml : Int32) (sh : Int32) (cpI : Int32) (wu : Value) (zf : Addr) (zs : Addr) (zn : Addr) (zr : Addr) (ku : ClassId) (kv : ClassId) (kr : ClassId) (kn : ClassId) (kf : ClassId) (ks : ClassId) (kx : ClassId) (R1 : List Int32) (R2 : List Int32) (lF : List Int32) (lS : List Int32) (lX : List Int32) (h0 : Heap) (n0 : Nat) (Z0 : n0 ≤ h0.size) (E0 : Exa Z h0 a0 "com/example/faces_into_crowds/facesintocrowds/Buckets") (F_F : Fld Z h0 a0 "com/example/faces_into_crowds/facesintocrowds/Buckets" "mFirst" "[I" (.ref zf)) (F_S : Fld Z h0 a0 "com/example/faces_into_crowds/facesintocrowds/Buckets" "mSlots" "[I" (.ref zs)) (F_N : Fld Z h0 a0 "com/example/faces_into_crowds/facesintocrowds/Buckets" "mNext" "[I" (.ref zn)) (F_H : Fld Z h0 a0 "com/example/faces_into_crowds/facesintocrowds/Buckets" "mShift" "I" (.int sh)) (F_B : Fld Z h0 a0 "com/example/faces_into_crowds/facesintocrowds/Buckets" "mBuckets" "I" (.int (Int32.ofNat nb))) (F_U : Fld Z h0 a0 "com/example/faces_into_crowds/facesintocrowds/Buckets" "mUnits" "[I" wu) (A_u : Arv Z h0 a1 ku .int (4 : Int32) (own_U.map Value.int) (.int (0 : Int32))) (A_v : Arv Z h0 a3 kv .int (4 : Int32) (R1.map Value.int) (.int (0 : Int32))) (A_r : Arv Z h0 zr kr .int (4 : Int32) (R2.map Value.int) (.int (0 : Int32))) (A_n : Arv Z h0 a4 kn (.array .int) (1 : Int32) [(.ref zr)] .null) (A_F : Arv Z h0 zf kf .int ml (lF.map Value.int) (.int (0 : Int32))) (A_S : Arv Z h0 zs ks .int cpI (lS.map Value.int) (.int (0 : Int32))) (A_X : Arv Z h0 zn kx .int cpI (lX.map Value.int) (.int (0 : Int32))) (ne_a0_zf : a0 ≠ zf) (ne_a0_zs : a0 ≠ zs) (ne_a0_zn : a0 ≠ zn) (ne_a0_a1 : a0 ≠ a1) (ne_a0_a3 : a0 ≠ a3) (ne_a0_a4 : a0 ≠ a4) (ne_a0_zr : a0 ≠ zr) (ne_zf_zs : zf ≠ zs) (ne_zf_zn : zf ≠ zn) (ne_zf_a1 : zf ≠ a1) (ne_zf_a3 : zf ≠ a3) (ne_zf_a4 : zf ≠ a4) (ne_zf_zr : zf ≠ zr) (ne_zs_zn : zs ≠ zn) (ne_zs_a1 : zs ≠ a1) (ne_zs_a3 : zs ≠ a3) (ne_zs_a4 : zs ≠ a4) (ne_zs_zr : zs ≠ zr) (ne_zn_a1 : zn ≠ a1) (ne_zn_a3 : zn ≠ a3) (ne_zn_a4 : zn ≠ a4) (ne_zn_zr : zn ≠ zr) (g_a0 : n0 ≤ a0) (g_zf : n0 ≤ zf) (g_zs : n0 ≤ zs) (g_zn : n0 ≤ zn) (hcf : own_cfg mm cc ml sh cpI) (hO0 : own_Old mm cc nb 0 lF lS) (hX0 : lX.length = cc) (hR1 : own_V R1) (hR2 : R2.length = 4) (hc4 : cnt ≤ 4) :
    MetFree l (⟨"com/example/faces_into_crowds/facesintocrowds/Buckets", "sort", "([II[I[[I)V"⟩ : MethodName) (head1 (Jvm.Cond.code (⟨"com/example/faces_into_crowds/facesintocrowds/Buckets", "sort", "([II[I[[I)V"⟩ : MethodName) prog_1_method_2_code 11 none :: ws) ({ frames := 1, cells := 0, slots := 0, locals := 18 } : Room)) (fun a U => a = #[(.ref a0), (.ref a1), (.int (Int32.ofNat cnt)), (.ref a3), (.ref a4)] ∧ Z.Warmed39 U.vm ∧ U.heap = h0) (fun _ _ _ _ _ => True) (fun _ U o U' => ∃ v L, o = .returned v ∧ Q_rm_so Z a0 a1 a3 a4 cnt mm cc nb ml sh cpI wu zf zs zn zr ku kv kr kn kf ks kx R1 R2 lF lS lX h0 n0 v U'.heap L ∧ FrameEnd U o U' L ({ frames := 1, cells := 0, slots := 0, locals := 18 } : Room).cells ({ frames := 1, cells := 0, slots := 0, locals := 18 } : Room).slots) := by
  refine MetFree.of_bodySF (plainFor_of_name own_pn7) hisR ?_
  intro p e s m args below meth c s₁ Bd hml0 hP hK
  obtain ⟨rfl, hZ, hh⟩ := hP
  have hx := Bd.exec
  have hby := Bd.bytes
  have hml : c.maxLocals = 11 := hml0
  have hown : s.vm.findClass "com/example/faces_into_crowds/facesintocrowds/Buckets" = some m.cls := findClass_of_methodNamed Bd.named
  have hnm := (name_of_methodNamed Bd.named Bd.method).1
  have X0 : Stand p l e ({ frames := 1, cells := 0, slots := 0, locals := 18 } : Room) s m #[(.ref a0), (.ref a1), (.int (Int32.ofNat cnt)), (.ref a3), (.ref a4)] below meth c s₁ [] 0 0 := Stand.of_body Bd
  have e0 : s₁.heap = h0 := by rw [← hh, Bd.state]; rfl
  have N0 := Fr.nil n0
  refine OGo.by (P := fun U' o => ∃ v L, o = .returned v ∧ Q_rm_so Z a0 a1 a3 a4 cnt mm cc nb ml sh cpI wu zf zs zn zr ku kv kr kn kf ks kx R1 R2 lF lS lX h0 n0 v U'.heap L ∧ FrameEnd s o U' L ({ frames := 1, cells := 0, slots := 0, locals := 18 } : Room).cells ({ frames := 1, cells := 0, slots := 0, locals := 18 } : Room).slots) (fun T_ k_ => castTop (ef_rm_so m a0 a1 a3 a4 cnt mm cc nb ml sh cpI wu zf zs zn zr ku kv kr kn kf ks kx R1 R2 lF lS lX) k_) ?_
  show OGo p e below _ (s₁.setTop (mkF m 0 #[.val (.ref a0), .val (.ref a1), .val (.int (Int32.ofNat cnt)), .val (.ref a3), .val (.ref a4), .unset, .unset, .unset, .unset, .unset, .unset] []))
  refine OGo.by (fun _ k => XS.iconst X0.here hx rfl (hb hby d7_0) k) ?_
  show OGo p e below _ (s₁.setTop (mkF m 1 #[.val (.ref a0), .val (.ref a1), .val (.int (Int32.ofNat cnt)), .val (.ref a3), .val (.ref a4), .unset, .unset, .unset, .unset, .unset, .unset] [(.int (0 : Int32))]))
  refine OGo.by (fun _ k => XS.istore X0.here hx rfl (hb hby d7_1) rfl (l' := #[.val (.ref a0), .val (.ref a1), .val (.int (Int32.ofNat cnt)), .val (.ref a3), .val (.ref a4), .val (.int (0 : Int32)), .unset, .unset, .unset, .unset, .unset]) rfl k) ?_
  show OGo p e below _ (s₁.setTop (mkF m 3 #[.val (.ref a0), .val (.ref a1), .val (.int (Int32.ofNat cnt)), .val (.ref a3), .val (.ref a4), .val (.int (0 : Int32)), .unset, .unset, .unset, .unset, .unset] []))
  have hM16 := own_M16 hcf
  have hcM := own_cM hcf
  have hHM : ∀ k, own_h sh k < mm := fun k => (own_hash hcf k).2
  have LA : ∀ (k i : Nat), i + k = nb → ∀ (T : State) (locs : List Loc) (hh : Heap) (gg : List Int32), own_Old mm cc nb i gg lS → Stand p l e ({ frames := 1, cells := 0, slots := 0, locals := 18 } : Room) s m #[(.ref a0), (.ref a1), (.int (Int32.ofNat cnt)), (.ref a3), (.ref a4)] below meth c T locs 0 0 → T.heap = hh → Fr n0 locs → Keep h0 hh [a0, zf, zs, zn] → (Exa Z hh a0 "com/example/faces_into_crowds/facesintocrowds/Buckets") → (Fld Z hh a0 "com/example/faces_into_crowds/facesintocrowds/Buckets" "mFirst" "[I" (.ref zf)) → (Fld Z hh a0 "com/example/faces_into_crowds/facesintocrowds/Buckets" "mSlots" "[I" (.ref zs)) → (Fld Z hh a0 "com/example/faces_into_crowds/facesintocrowds/Buckets" "mNext" "[I" (.ref zn)) → (Fld Z hh a0 "com/example/faces_into_crowds/facesintocrowds/Buckets" "mShift" "I" (.int sh)) → (Fld Z hh a0 "com/example/faces_into_crowds/facesintocrowds/Buckets" "mBuckets" "I" (.int (Int32.ofNat nb))) → (Fld Z hh a0 "com/example/faces_into_crowds/facesintocrowds/Buckets" "mUnits" "[I" wu) → (Arv Z hh a1 ku .int (4 : Int32) (own_U.map Value.int) (.int (0 : Int32))) → (Arv Z hh a3 kv .int (4 : Int32) (R1.map Value.int) (.int (0 : Int32))) → (Arv Z hh zr kr .int (4 : Int32) (R2.map Value.int) (.int (0 : Int32))) → (Arv Z hh a4 kn (.array .int) (1 : Int32) [(.ref zr)] .null) → (Arv Z hh zf kf .int ml (gg.map Value.int) (.int (0 : Int32))) → (Arv Z hh zs ks .int cpI (lS.map Value.int) (.int (0 : Int32))) → (Arv Z hh zn kx .int cpI (lX.map Value.int) (.int (0 : Int32))) → OGo p e below (fun U' o => ∃ v L, o = .returned v ∧ Q_rm_so Z a0 a1 a3 a4 cnt mm cc nb ml sh cpI wu zf zs zn zr ku kv kr kn kf ks kx R1 R2 lF lS lX h0 n0 v U'.heap L ∧ FrameEnd s o U' L (({ frames := 1, cells := 0, slots := 0, locals := 18 } : Room)).cells (({ frames := 1, cells := 0, slots := 0, locals := 18 } : Room)).slots) (T.setTop (mkF m 3 #[.val (.ref a0), .val (.ref a1), .val (.int (Int32.ofNat cnt)), .val (.ref a3), .val (.ref a4), .val (.int (Int32.ofNat i)), .unset, .unset, .unset, .unset, .unset] [])) := by
    intro k
    induction k with
    | zero =>
      intro i hi T locs hh gg hO X eT N KK fE fF fS fN fH fB fU fu fv fr_ fn_ fG fT fX
      have hnb4 := hO.2.2.1
      show OGo p e below _ (T.setTop (mkF m 3 #[.val (.ref a0), .val (.ref a1), .val (.int (Int32.ofNat cnt)), .val (.ref a3), .val (.ref a4), .val (.int (Int32.ofNat i)), .unset, .unset, .unset, .unset, .unset] []))
      refine OGo.by (fun _ k => XS.iload X.here hx rfl (hb hby d7_3) rfl k) ?_
      show OGo p e below _ (T.setTop (mkF m 5 #[.val (.ref a0), .val (.ref a1), .val (.int (Int32.ofNat cnt)), .val (.ref a3), .val (.ref a4), .val (.int (Int32.ofNat i)), .unset, .unset, .unset, .unset, .unset] [(.int (Int32.ofNat i))]))
      refine OGo.by (fun _ k => XS.aloadN X.here hx rfl (hb hby d7_5) rfl rfl k) ?_
      show OGo p e below _ (T.setTop (mkF m 6 #[.val (.ref a0), .val (.ref a1), .val (.int (Int32.ofNat cnt)), .val (.ref a3), .val (.ref a4), .val (.int (Int32.ofNat i)), .unset, .unset, .unset, .unset, .unset] [(.ref a0), (.int (Int32.ofNat i))]))
      obtain ⟨T1, X1, e1, st1⟩ := getF X hx hZ hown (host := "") (Or.inl (hw _ (List.mem_of_getElem? (i := 44) rfl))) Via.refl eT fB (g := (mkF m 6 #[.val (.ref a0), .val (.ref a1), .val (.int (Int32.ofNat cnt)), .val (.ref a3), .val (.ref a4), .val (.int (Int32.ofNat i)), .unset, .unset, .unset, .unset, .unset] [(.ref a0), (.int (Int32.ofNat i))])) rfl rfl (hb hby d7_6)
      refine OGo.by st1 ?_
      show OGo p e below _ (T1.setTop (mkF m 9 #[.val (.ref a0), .val (.ref a1), .val (.int (Int32.ofNat cnt)), .val (.ref a3), .val (.ref a4), .val (.int (Int32.ofNat i)), .unset, .unset, .unset, .unset, .unset] [(.int (Int32.ofNat nb)), (.int (Int32.ofNat i))]))
      refine OGo.by (fun _ k => XS.icmpYes X1.here hx rfl (pc0 := 9) (pc' := 31) rfl (hb hby d7_9) rfl (flt (own_nlt (by omega) (by omega) (by omega))).2.1 (by decide) (by decide) k) ?_
      show OGo p e below _ (T1.setTop (mkF m 31 #[.val (.ref a0), .val (.ref a1), .val (.int (Int32.ofNat cnt)), .val (.ref a3), .val (.ref a4), .val (.int (Int32.ofNat i)), .unset, .unset, .unset, .unset, .unset] []))
      refine OGo.by (fun _ k => XS.aloadN X1.here hx rfl (hb hby d7_31) rfl rfl k) ?_
      show OGo p e below _ (T1.setTop (mkF m 32 #[.val (.ref a0), .val (.ref a1), .val (.int (Int32.ofNat cnt)), .val (.ref a3), .val (.ref a4), .val (.int (Int32.ofNat i)), .unset, .unset, .unset, .unset, .unset] [(.ref a0)]))
      refine OGo.by (fun _ k => XS.aloadN X1.here hx rfl (hb hby d7_32) rfl rfl k) ?_
      show OGo p e below _ (T1.setTop (mkF m 33 #[.val (.ref a0), .val (.ref a1), .val (.int (Int32.ofNat cnt)), .val (.ref a3), .val (.ref a4), .val (.int (Int32.ofNat i)), .unset, .unset, .unset, .unset, .unset] [(.ref a1), (.ref a0)]))
      obtain ⟨T2, h2, X2, e2, W2, st2⟩ := putF X1 hx hZ hown (host := "") (Or.inl (hw _ (List.mem_of_getElem? (i := 46) rfl))) Via.refl e1 fU fE (Or.inl (hw _ (List.mem_of_getElem? (i := 47) rfl))) (hw _ (List.mem_of_getElem? (i := 5) rfl)) (ty := (.array .int)) (by decide) rfl rfl (g := (mkF m 33 #[.val (.ref a0), .val (.ref a1), .val (.int (Int32.ofNat cnt)), .val (.ref a3), .val (.ref a4), .val (.int (Int32.ofNat i)), .unset, .unset, .unset, .unset, .unset] [(.ref a1), (.ref a0)])) rfl rfl (hb hby d7_33)
      refine OGo.by st2 ?_
      have Fw2 := fU.same W2
      have N2 := Fr.snoc X2 N g_a0
      have K2 : Keep h0 h2 [a0, zf, zs, zn] := (KK).wr W2 (Or.inl (List.mem_of_getElem? (i := 0) rfl))
      show OGo p e below _ (T2.setTop (mkF m 36 #[.val (.ref a0), .val (.ref a1), .val (.int (Int32.ofNat cnt)), .val (.ref a3), .val (.ref a4), .val (.int (Int32.ofNat i)), .unset, .unset, .unset, .unset, .unset] []))
      refine OGo.by (fun _ k => XS.aloadN X2.here hx rfl (hb hby d7_36) rfl rfl k) ?_
      show OGo p e below _ (T2.setTop (mkF m 37 #[.val (.ref a0), .val (.ref a1), .val (.int (Int32.ofNat cnt)), .val (.ref a3), .val (.ref a4), .val (.int (Int32.ofNat i)), .unset, .unset, .unset, .unset, .unset] [(.ref a0)]))
      refine OGo.by (fun _ k => XS.iconst X2.here hx rfl (hb hby d7_37) k) ?_
      show OGo p e below _ (T2.setTop (mkF m 38 #[.val (.ref a0), .val (.ref a1), .val (.int (Int32.ofNat cnt)), .val (.ref a3), .val (.ref a4), .val (.int (Int32.ofNat i)), .unset, .unset, .unset, .unset, .unset] [(.int (0 : Int32)), (.ref a0)]))
      have f3 : Exa Z h2 a0 "com/example/faces_into_crowds/facesintocrowds/Buckets" := (fE.wr W2)
      have f4 : Fld Z h2 a0 "com/example/faces_into_crowds/facesintocrowds/Buckets" "mBuckets" "I" (.int (Int32.ofNat nb)) := (fB.other W2 (Or.inr (slot_ne (Or.inl (hw _ (List.mem_of_getElem? (i := 45) rfl))) (Or.inl (hw _ (List.mem_of_getElem? (i := 47) rfl))) (by decide) (t := .int) (t' := (.array .int)) (by decide) (by decide))))
      obtain ⟨T5, h5, X5, e5, W5, st5⟩ := putF X2 hx hZ hown (host := "") (Or.inl (hw _ (List.mem_of_getElem? (i := 44) rfl))) Via.refl e2 f4 f3 (Or.inl (hw _ (List.mem_of_getElem? (i := 45) rfl))) (hw _ (List.mem_of_getElem? (i := 5) rfl)) (ty := .int) (by decide) rfl rfl (g := (mkF m 38 #[.val (.ref a0), .val (.ref a1), .val (.int (Int32.ofNat cnt)), .val (.ref a3), .val (.ref a4), .val (.int (Int32.ofNat i)), .unset, .unset, .unset, .unset, .unset] [(.int (0 : Int32)), (.ref a0)])) rfl rfl (hb hby d7_38)
      refine OGo.by st5 ?_
      have Fw5 := f4.same W5
      have N5 := Fr.snoc X5 N2 g_a0
      have K5 : Keep h0 h5 [a0, zf, zs, zn] := (K2).wr W5 (Or.inl (List.mem_of_getElem? (i := 0) rfl))
      show OGo p e below _ (T5.setTop (mkF m 41 #[.val (.ref a0), .val (.ref a1), .val (.int (Int32.ofNat cnt)), .val (.ref a3), .val (.ref a4), .val (.int (Int32.ofNat i)), .unset, .unset, .unset, .unset, .unset] []))
      refine OGo.by (fun _ k => XS.aload X5.here hx rfl (hb hby d7_41) rfl rfl k) ?_
      show OGo p e below _ (T5.setTop (mkF m 43 #[.val (.ref a0), .val (.ref a1), .val (.int (Int32.ofNat cnt)), .val (.ref a3), .val (.ref a4), .val (.int (Int32.ofNat i)), .unset, .unset, .unset, .unset, .unset] [(.ref a4)]))
      have f6 : Arv Z h5 a4 kn (.array .int) (1 : Int32) [(.ref zr)] .null := ((fn_.other W2 (Ne.symm ne_a0_a4)).other W5 (Ne.symm ne_a0_a4))
      obtain ⟨cl7, Ar7, q7, S7, M7, -, -⟩ := id f6
      refine OGo.by (X5.arraylength hx (by rw [e5]; exact Ar7.1) (State.isArrayOf_alike hZ.alike Ar7.2.1) (g := (mkF m 43 #[.val (.ref a0), .val (.ref a1), .val (.int (Int32.ofNat cnt)), .val (.ref a3), .val (.ref a4), .val (.int (Int32.ofNat i)), .unset, .unset, .unset, .unset, .unset] [(.ref a4)])) rfl rfl (hb hby d7_43)) ?_
      rw [len_of S7 M7]
      show OGo p e below _ (T5.setTop (mkF m 44 #[.val (.ref a0), .val (.ref a1), .val (.int (Int32.ofNat cnt)), .val (.ref a3), .val (.ref a4), .val (.int (Int32.ofNat i)), .unset, .unset, .unset, .unset, .unset] [(.int (1 : Int32))]))
      refine OGo.by (fun _ k => XS.istore X5.here hx rfl (hb hby d7_44) rfl (l' := #[.val (.ref a0), .val (.ref a1), .val (.int (Int32.ofNat cnt)), .val (.ref a3), .val (.ref a4), .val (.int (1 : Int32)), .unset, .unset, .unset, .unset, .unset]) rfl k) ?_
      show OGo p e below _ (T5.setTop (mkF m 46 #[.val (.ref a0), .val (.ref a1), .val (.int (Int32.ofNat cnt)), .val (.ref a3), .val (.ref a4), .val (.int (1 : Int32)), .unset, .unset, .unset, .unset, .unset] []))
      refine OGo.by (fun _ k => XS.iconst X5.here hx rfl (hb hby d7_46) k) ?_
      show OGo p e below _ (T5.setTop (mkF m 47 #[.val (.ref a0), .val (.ref a1), .val (.int (Int32.ofNat cnt)), .val (.ref a3), .val (.ref a4), .val (.int (1 : Int32)), .unset, .unset, .unset, .unset, .unset] [(.int (0 : Int32))]))
      refine OGo.by (fun _ k => XS.istore X5.here hx rfl (hb hby d7_47) rfl (l' := #[.val (.ref a0), .val (.ref a1), .val (.int (Int32.ofNat cnt)), .val (.ref a3), .val (.ref a4), .val (.int (1 : Int32)), .val (.int (0 : Int32)), .unset, .unset, .unset, .unset]) rfl k) ?_
      show OGo p e below _ (T5.setTop (mkF m 49 #[.val (.ref a0), .val (.ref a1), .val (.int (Int32.ofNat cnt)), .val (.ref a3), .val (.ref a4), .val (.int (1 : Int32)), .val (.int (0 : Int32)), .unset, .unset, .unset, .unset] []))
      have LB : ∀ (k i : Nat), i + k = cnt → ∀ (T : State) (locs : List Loc) (hh : Heap) (gg lT lY : List Int32) (nc : Nat) (s7 s8 s9 s10 : Slot), ((s7 = .unset ∧ s8 = .unset ∧ s9 = .unset ∧ s10 = .unset) ∨ (∃ (v7 : Int32) (v8 : Int64) (v10 : Int32), s7 = .val (.int v7) ∧ s8 = .val (.long v8) ∧ s9 = .second ∧ s10 = .val (.int v10))) → own_Inv (own_K R1 R2) (own_h sh) mm cc i gg lT nc → lY.length = cc → Stand p l e ({ frames := 1, cells := 0, slots := 0, locals := 18 } : Room) s m #[(.ref a0), (.ref a1), (.int (Int32.ofNat cnt)), (.ref a3), (.ref a4)] below meth c T locs 0 0 → T.heap = hh → Fr n0 locs → Keep h0 hh [a0, zf, zs, zn] → (Exa Z hh a0 "com/example/faces_into_crowds/facesintocrowds/Buckets") → (Fld Z hh a0 "com/example/faces_into_crowds/facesintocrowds/Buckets" "mFirst" "[I" (.ref zf)) → (Fld Z hh a0 "com/example/faces_into_crowds/facesintocrowds/Buckets" "mSlots" "[I" (.ref zs)) → (Fld Z hh a0 "com/example/faces_into_crowds/facesintocrowds/Buckets" "mNext" "[I" (.ref zn)) → (Fld Z hh a0 "com/example/faces_into_crowds/facesintocrowds/Buckets" "mShift" "I" (.int sh)) → (Fld Z hh a0 "com/example/faces_into_crowds/facesintocrowds/Buckets" "mBuckets" "I" (.int (Int32.ofNat nc))) → (Fld Z hh a0 "com/example/faces_into_crowds/facesintocrowds/Buckets" "mUnits" "[I" (.ref a1)) → (Arv Z hh a1 ku .int (4 : Int32) (own_U.map Value.int) (.int (0 : Int32))) → (Arv Z hh a3 kv .int (4 : Int32) (R1.map Value.int) (.int (0 : Int32))) → (Arv Z hh zr kr .int (4 : Int32) (R2.map Value.int) (.int (0 : Int32))) → (Arv Z hh a4 kn (.array .int) (1 : Int32) [(.ref zr)] .null) → (Arv Z hh zf kf .int ml (gg.map Value.int) (.int (0 : Int32))) → (Arv Z hh zs ks .int cpI (lT.map Value.int) (.int (0 : Int32))) → (Arv Z hh zn kx .int cpI (lY.map Value.int) (.int (0 : Int32))) → OGo p e below (fun U' o => ∃ v L, o = .returned v ∧ Q_rm_so Z a0 a1 a3 a4 cnt mm cc nb ml sh cpI wu zf zs zn zr ku kv kr kn kf ks kx R1 R2 lF lS lX h0 n0 v U'.heap L ∧ FrameEnd s o U' L (({ frames := 1, cells := 0, slots := 0, locals := 18 } : Room)).cells (({ frames := 1, cells := 0, slots := 0, locals := 18 } : Room)).slots) (T.setTop (mkF m 49 #[.val (.ref a0), .val (.ref a1), .val (.int (Int32.ofNat cnt)), .val (.ref a3), .val (.ref a4), .val (.int (1 : Int32)), .val (.int (Int32.ofNat i)), s7, s8, s9, s10] [])) := by
        intro k
        induction k with
        | zero =>
          intro i hi T locs hh gg lT lY nc s7 s8 s9 s10 hsl hI hX X eT N KK fE fF fS fN fH fB fU fu fv fr_ fn_ fG fT fX
          show OGo p e below _ (T.setTop (mkF m 49 #[.val (.ref a0), .val (.ref a1), .val (.int (Int32.ofNat cnt)), .val (.ref a3), .val (.ref a4), .val (.int (1 : Int32)), .val (.int (Int32.ofNat i)), s7, s8, s9, s10] []))
          refine OGo.by (fun _ k => XS.iload X.here hx rfl (hb hby d7_49) rfl k) ?_
          show OGo p e below _ (T.setTop (mkF m 51 #[.val (.ref a0), .val (.ref a1), .val (.int (Int32.ofNat cnt)), .val (.ref a3), .val (.ref a4), .val (.int (1 : Int32)), .val (.int (Int32.ofNat i)), s7, s8, s9, s10] [(.int (Int32.ofNat i))]))
          refine OGo.by (fun _ k => XS.iloadN X.here hx rfl (hb hby d7_51) rfl k) ?_
          show OGo p e below _ (T.setTop (mkF m 52 #[.val (.ref a0), .val (.ref a1), .val (.int (Int32.ofNat cnt)), .val (.ref a3), .val (.ref a4), .val (.int (1 : Int32)), .val (.int (Int32.ofNat i)), s7, s8, s9, s10] [(.int (Int32.ofNat cnt)), (.int (Int32.ofNat i))]))
          refine OGo.by (fun _ k => XS.icmpYes X.here hx rfl (pc0 := 52) (pc' := 220) rfl (hb hby d7_52) rfl (flt (own_nlt (by omega) (by omega) (by omega))).2.1 (by decide) (by decide) k) ?_
          show OGo p e below _ (T.setTop (mkF m 220 #[.val (.ref a0), .val (.ref a1), .val (.int (Int32.ofNat cnt)), .val (.ref a3), .val (.ref a4), .val (.int (1 : Int32)), .val (.int (Int32.ofNat i)), s7, s8, s9, s10] []))
          obtain ⟨fs, hr, hrun, hended, hW, hsame⟩ := X.leave (v := none) (fun _ => rfl)
          refine OGo.ret (X.returnOut hx Bd.returns (hb hby d7_220) hr) hrun hended ⟨_, _, rfl, ?_, ⟨_, rfl⟩, hW, hsame.mono (by decide) (by decide)⟩
          show Q_rm_so Z a0 a1 a3 a4 cnt mm cc nb ml sh cpI wu zf zs zn zr ku kv kr kn kf ks kx R1 R2 lF lS lX h0 n0 _ T.heap _
          rw [eT]
          obtain rfl : i = cnt := by omega
          exact ⟨gg, lT, lY, nc, rfl, N, KK, hI, hX, fE, fF, fS, fN, fH, fB, fU, fG, fT, fX⟩
        | succ k ih =>
          intro i hi T locs hh gg lT lY nc s7 s8 s9 s10 hsl hI hX X eT N KK fE fF fS fN fH fB fU fu fv fr_ fn_ fG fT fX
          show OGo p e below _ (T.setTop (mkF m 49 #[.val (.ref a0), .val (.ref a1), .val (.int (Int32.ofNat cnt)), .val (.ref a3), .val (.ref a4), .val (.int (1 : Int32)), .val (.int (Int32.ofNat i)), s7, s8, s9, s10] []))
          refine OGo.by (fun _ k => XS.iload X.here hx rfl (hb hby d7_49) rfl k) ?_
          show OGo p e below _ (T.setTop (mkF m 51 #[.val (.ref a0), .val (.ref a1), .val (.int (Int32.ofNat cnt)), .val (.ref a3), .val (.ref a4), .val (.int (1 : Int32)), .val (.int (Int32.ofNat i)), s7, s8, s9, s10] [(.int (Int32.ofNat i))]))
          refine OGo.by (fun _ k => XS.iloadN X.here hx rfl (hb hby d7_51) rfl k) ?_
          show OGo p e below _ (T.setTop (mkF m 52 #[.val (.ref a0), .val (.ref a1), .val (.int (Int32.ofNat cnt)), .val (.ref a3), .val (.ref a4), .val (.int (1 : Int32)), .val (.int (Int32.ofNat i)), s7, s8, s9, s10] [(.int (Int32.ofNat cnt)), (.int (Int32.ofNat i))]))
          refine OGo.by (fun _ k => XS.icmpNo X.here hx rfl (hb hby d7_52) rfl (tlt (own_olt (by omega) (by omega))).2.1 k) ?_
          show OGo p e below _ (T.setTop (mkF m 55 #[.val (.ref a0), .val (.ref a1), .val (.int (Int32.ofNat cnt)), .val (.ref a3), .val (.ref a4), .val (.int (1 : Int32)), .val (.int (Int32.ofNat i)), s7, s8, s9, s10] []))
          refine OGo.by (fun _ k => XS.aloadN X.here hx rfl (hb hby d7_55) rfl rfl k) ?_
          show OGo p e below _ (T.setTop (mkF m 56 #[.val (.ref a0), .val (.ref a1), .val (.int (Int32.ofNat cnt)), .val (.ref a3), .val (.ref a4), .val (.int (1 : Int32)), .val (.int (Int32.ofNat i)), s7, s8, s9, s10] [(.ref a1)]))
          refine OGo.by (fun _ k => XS.iload X.here hx rfl (hb hby d7_56) rfl k) ?_
          show OGo p e below _ (T.setTop (mkF m 58 #[.val (.ref a0), .val (.ref a1), .val (.int (Int32.ofNat cnt)), .val (.ref a3), .val (.ref a4), .val (.int (1 : Int32)), .val (.int (Int32.ofNat i)), s7, s8, s9, s10] [(.int (Int32.ofNat i)), (.ref a1)]))
          obtain ⟨cl8, Ar8, q8, S8, M8, Hs8, G8⟩ := id fu
          have hin8 := inb_of (j := (Int32.ofNat i)) S8 (own_in4 (by omega))
          refine OGo.by (X.iaload hx (j := (Int32.ofNat i)) (v := (.int (own_U.getD ((Int32.ofNat i)).toNatClampNeg 0))) (by rw [eT]; exact Ar8.1) (State.isArrayOf_alike hZ.alike Ar8.2.1) Ar8.2.2 hin8 (Has.at Hs8 hin8 (own_getD _ _)) (g := (mkF m 58 #[.val (.ref a0), .val (.ref a1), .val (.int (Int32.ofNat cnt)), .val (.ref a3), .val (.ref a4), .val (.int (1 : Int32)), .val (.int (Int32.ofNat i)), s7, s8, s9, s10] [(.int (Int32.ofNat i)), (.ref a1)])) rfl rfl (hb hby d7_58)) ?_
          rw [own_tn (by omega), own_Uat (by omega)]
          show OGo p e below _ (T.setTop (mkF m 59 #[.val (.ref a0), .val (.ref a1), .val (.int (Int32.ofNat cnt)), .val (.ref a3), .val (.ref a4), .val (.int (1 : Int32)), .val (.int (Int32.ofNat i)), s7, s8, s9, s10] [(.int (Int32.ofNat i))]))
          refine OGo.by (fun _ k => XS.istore X.here hx rfl (hb hby d7_59) rfl (l' := #[.val (.ref a0), .val (.ref a1), .val (.int (Int32.ofNat cnt)), .val (.ref a3), .val (.ref a4), .val (.int (1 : Int32)), .val (.int (Int32.ofNat i)), .val (.int (Int32.ofNat i)), s8, s9, s10]) (by rcases hsl with ⟨rfl, rfl, rfl, rfl⟩ | ⟨v7, v8, v10, rfl, rfl, rfl, rfl⟩ <;> rfl) k) ?_
          show OGo p e below _ (T.setTop (mkF m 61 #[.val (.ref a0), .val (.ref a1), .val (.int (Int32.ofNat cnt)), .val (.ref a3), .val (.ref a4), .val (.int (1 : Int32)), .val (.int (Int32.ofNat i)), .val (.int (Int32.ofNat i)), s8, s9, s10] []))
          refine OGo.by (fun _ k => XS.lconst X.here hx rfl (hb hby d7_61) k) ?_
          show OGo p e below _ (T.setTop (mkF m 62 #[.val (.ref a0), .val (.ref a1), .val (.int (Int32.ofNat cnt)), .val (.ref a3), .val (.ref a4), .val (.int (1 : Int32)), .val (.int (Int32.ofNat i)), .val (.int (Int32.ofNat i)), s8, s9, s10] [(.long (0 : Int64))]))
          refine OGo.by (fun _ k => XS.lstore X.here hx rfl (hb hby d7_62) rfl (l' := #[.val (.ref a0), .val (.ref a1), .val (.int (Int32.ofNat cnt)), .val (.ref a3), .val (.ref a4), .val (.int (1 : Int32)), .val (.int (Int32.ofNat i)), .val (.int (Int32.ofNat i)), .val (.long (0 : Int64)), .second, s10]) (by rcases hsl with ⟨rfl, rfl, rfl, rfl⟩ | ⟨v7, v8, v10, rfl, rfl, rfl, rfl⟩ <;> rfl) k) ?_
          show OGo p e below _ (T.setTop (mkF m 64 #[.val (.ref a0), .val (.ref a1), .val (.int (Int32.ofNat cnt)), .val (.ref a3), .val (.ref a4), .val (.int (1 : Int32)), .val (.int (Int32.ofNat i)), .val (.int (Int32.ofNat i)), .val (.long (0 : Int64)), .second, s10] []))
          refine OGo.by (fun _ k => XS.iconst X.here hx rfl (hb hby d7_64) k) ?_
          show OGo p e below _ (T.setTop (mkF m 65 #[.val (.ref a0), .val (.ref a1), .val (.int (Int32.ofNat cnt)), .val (.ref a3), .val (.ref a4), .val (.int (1 : Int32)), .val (.int (Int32.ofNat i)), .val (.int (Int32.ofNat i)), .val (.long (0 : Int64)), .second, s10] [(.int (0 : Int32))]))
          refine OGo.by (fun _ k => XS.istore X.here hx rfl (hb hby d7_65) rfl (l' := #[.val (.ref a0), .val (.ref a1), .val (.int (Int32.ofNat cnt)), .val (.ref a3), .val (.ref a4), .val (.int (1 : Int32)), .val (.int (Int32.ofNat i)), .val (.int (Int32.ofNat i)), .val (.long (0 : Int64)), .second, .val (.int (0 : Int32))]) (by rcases hsl with ⟨rfl, rfl, rfl, rfl⟩ | ⟨v7, v8, v10, rfl, rfl, rfl, rfl⟩ <;> rfl) k) ?_
          show OGo p e below _ (T.setTop (mkF m 67 #[.val (.ref a0), .val (.ref a1), .val (.int (Int32.ofNat cnt)), .val (.ref a3), .val (.ref a4), .val (.int (1 : Int32)), .val (.int (Int32.ofNat i)), .val (.int (Int32.ofNat i)), .val (.long (0 : Int64)), .second, .val (.int (0 : Int32))] []))
          refine OGo.by (fun _ k => XS.iload X.here hx rfl (hb hby d7_67) rfl k) ?_
          show OGo p e below _ (T.setTop (mkF m 69 #[.val (.ref a0), .val (.ref a1), .val (.int (Int32.ofNat cnt)), .val (.ref a3), .val (.ref a4), .val (.int (1 : Int32)), .val (.int (Int32.ofNat i)), .val (.int (Int32.ofNat i)), .val (.long (0 : Int64)), .second, .val (.int (0 : Int32))] [(.int (0 : Int32))]))
          refine OGo.by (fun _ k => XS.iload X.here hx rfl (hb hby d7_69) rfl k) ?_
          show OGo p e below _ (T.setTop (mkF m 71 #[.val (.ref a0), .val (.ref a1), .val (.int (Int32.ofNat cnt)), .val (.ref a3), .val (.ref a4), .val (.int (1 : Int32)), .val (.int (Int32.ofNat i)), .val (.int (Int32.ofNat i)), .val (.long (0 : Int64)), .second, .val (.int (0 : Int32))] [(.int (1 : Int32)), (.int (0 : Int32))]))
          refine OGo.by (fun _ k => XS.icmpNo X.here hx rfl (hb hby d7_71) rfl (tlt (by decide : (0 : Int32) < (1 : Int32))).2.1 k) ?_
          show OGo p e below _ (T.setTop (mkF m 74 #[.val (.ref a0), .val (.ref a1), .val (.int (Int32.ofNat cnt)), .val (.ref a3), .val (.ref a4), .val (.int (1 : Int32)), .val (.int (Int32.ofNat i)), .val (.int (Int32.ofNat i)), .val (.long (0 : Int64)), .second, .val (.int (0 : Int32))] []))
          refine OGo.by (fun _ k => XS.lload X.here hx rfl (hb hby d7_74) rfl k) ?_
          show OGo p e below _ (T.setTop (mkF m 76 #[.val (.ref a0), .val (.ref a1), .val (.int (Int32.ofNat cnt)), .val (.ref a3), .val (.ref a4), .val (.int (1 : Int32)), .val (.int (Int32.ofNat i)), .val (.int (Int32.ofNat i)), .val (.long (0 : Int64)), .second, .val (.int (0 : Int32))] [(.long (0 : Int64))]))
          refine OGo.by (fun _ k => XS.aload X.here hx rfl (hb hby d7_76) rfl rfl k) ?_
          show OGo p e below _ (T.setTop (mkF m 78 #[.val (.ref a0), .val (.ref a1), .val (.int (Int32.ofNat cnt)), .val (.ref a3), .val (.ref a4), .val (.int (1 : Int32)), .val (.int (Int32.ofNat i)), .val (.int (Int32.ofNat i)), .val (.long (0 : Int64)), .second, .val (.int (0 : Int32))] [(.ref a4), (.long (0 : Int64))]))
          refine OGo.by (fun _ k => XS.iload X.here hx rfl (hb hby d7_78) rfl k) ?_
          show OGo p e below _ (T.setTop (mkF m 80 #[.val (.ref a0), .val (.ref a1), .val (.int (Int32.ofNat cnt)), .val (.ref a3), .val (.ref a4), .val (.int (1 : Int32)), .val (.int (Int32.ofNat i)), .val (.int (Int32.ofNat i)), .val (.long (0 : Int64)), .second, .val (.int (0 : Int32))] [(.int (0 : Int32)), (.ref a4), (.long (0 : Int64))]))
          obtain ⟨cl9, Ar9, q9, S9, M9, Hs9, G9⟩ := id fn_
          have hin9 := inb_of (j := (0 : Int32)) S9 ⟨(by decide), (by decide)⟩
          refine OGo.by (X.aaload hx (j := (0 : Int32)) (v := (.ref zr)) (by rw [eT]; exact Ar9.1) (State.isArrayOf_alike hZ.alike Ar9.2.1) rfl Ar9.2.2 hin9 (Has.at Hs9 hin9 rfl) (g := (mkF m 80 #[.val (.ref a0), .val (.ref a1), .val (.int (Int32.ofNat cnt)), .val (.ref a3), .val (.ref a4), .val (.int (1 : Int32)), .val (.int (Int32.ofNat i)), .val (.int (Int32.ofNat i)), .val (.long (0 : Int64)), .second, .val (.int (0 : Int32))] [(.int (0 : Int32)), (.ref a4), (.long (0 : Int64))])) rfl rfl (hb hby d7_80)) ?_
          show OGo p e below _ (T.setTop (mkF m 81 #[.val (.ref a0), .val (.ref a1), .val (.int (Int32.ofNat cnt)), .val (.ref a3), .val (.ref a4), .val (.int (1 : Int32)), .val (.int (Int32.ofNat i)), .val (.int (Int32.ofNat i)), .val (.long (0 : Int64)), .second, .val (.int (0 : Int32))] [(.ref zr), (.long (0 : Int64))]))
          refine OGo.by (fun _ k => XS.aloadN X.here hx rfl (hb hby d7_81) rfl rfl k) ?_
          show OGo p e below _ (T.setTop (mkF m 82 #[.val (.ref a0), .val (.ref a1), .val (.int (Int32.ofNat cnt)), .val (.ref a3), .val (.ref a4), .val (.int (1 : Int32)), .val (.int (Int32.ofNat i)), .val (.int (Int32.ofNat i)), .val (.long (0 : Int64)), .second, .val (.int (0 : Int32))] [(.ref a3), (.ref zr), (.long (0 : Int64))]))
          refine OGo.by (fun _ k => XS.iload X.here hx rfl (hb hby d7_82) rfl k) ?_
          show OGo p e below _ (T.setTop (mkF m 84 #[.val (.ref a0), .val (.ref a1), .val (.int (Int32.ofNat cnt)), .val (.ref a3), .val (.ref a4), .val (.int (1 : Int32)), .val (.int (Int32.ofNat i)), .val (.int (Int32.ofNat i)), .val (.long (0 : Int64)), .second, .val (.int (0 : Int32))] [(.int (Int32.ofNat i)), (.ref a3), (.ref zr), (.long (0 : Int64))]))
          refine OGo.by (fun _ k => XS.iload X.here hx rfl (hb hby d7_84) rfl k) ?_
          show OGo p e below _ (T.setTop (mkF m 86 #[.val (.ref a0), .val (.ref a1), .val (.int (Int32.ofNat cnt)), .val (.ref a3), .val (.ref a4), .val (.int (1 : Int32)), .val (.int (Int32.ofNat i)), .val (.int (Int32.ofNat i)), .val (.long (0 : Int64)), .second, .val (.int (0 : Int32))] [(.int (1 : Int32)), (.int (Int32.ofNat i)), (.ref a3), (.ref zr), (.long (0 : Int64))]))
          refine OGo.by (fun _ k => XS.imul X.here hx rfl (hb hby d7_86) rfl k) ?_
          show OGo p e below _ (T.setTop (mkF m 87 #[.val (.ref a0), .val (.ref a1), .val (.int (Int32.ofNat cnt)), .val (.ref a3), .val (.ref a4), .val (.int (1 : Int32)), .val (.int (Int32.ofNat i)), .val (.int (Int32.ofNat i)), .val (.long (0 : Int64)), .second, .val (.int (0 : Int32))] [(.int ((Int32.ofNat i) * (1 : Int32))), (.ref a3), (.ref zr), (.long (0 : Int64))]))
          refine OGo.by (fun _ k => XS.iload X.here hx rfl (hb hby d7_87) rfl k) ?_
          show OGo p e below _ (T.setTop (mkF m 89 #[.val (.ref a0), .val (.ref a1), .val (.int (Int32.ofNat cnt)), .val (.ref a3), .val (.ref a4), .val (.int (1 : Int32)), .val (.int (Int32.ofNat i)), .val (.int (Int32.ofNat i)), .val (.long (0 : Int64)), .second, .val (.int (0 : Int32))] [(.int (0 : Int32)), (.int ((Int32.ofNat i) * (1 : Int32))), (.ref a3), (.ref zr), (.long (0 : Int64))]))
          refine OGo.by (fun _ k => XS.iadd X.here hx rfl (hb hby d7_89) rfl k) ?_
          show OGo p e below _ (T.setTop (mkF m 90 #[.val (.ref a0), .val (.ref a1), .val (.int (Int32.ofNat cnt)), .val (.ref a3), .val (.ref a4), .val (.int (1 : Int32)), .val (.int (Int32.ofNat i)), .val (.int (Int32.ofNat i)), .val (.long (0 : Int64)), .second, .val (.int (0 : Int32))] [(.int (((Int32.ofNat i) * (1 : Int32)) + (0 : Int32))), (.ref a3), (.ref zr), (.long (0 : Int64))]))
          rw [own_m1]
          show OGo p e below _ (T.setTop (mkF m 90 #[.val (.ref a0), .val (.ref a1), .val (.int (Int32.ofNat cnt)), .val (.ref a3), .val (.ref a4), .val (.int (1 : Int32)), .val (.int (Int32.ofNat i)), .val (.int (Int32.ofNat i)), .val (.long (0 : Int64)), .second, .val (.int (0 : Int32))] [(.int (Int32.ofNat i)), (.ref a3), (.ref zr), (.long (0 : Int64))]))
          obtain ⟨cl10, Ar10, q10, S10, M10, Hs10, G10⟩ := id fv
          have hin10 := inb_of (j := (Int32.ofNat i)) S10 (own_in4 (by omega))
          refine OGo.by (X.iaload hx (j := (Int32.ofNat i)) (v := (.int (R1.getD ((Int32.ofNat i)).toNatClampNeg 0))) (by rw [eT]; exact Ar10.1) (State.isArrayOf_alike hZ.alike Ar10.2.1) Ar10.2.2 hin10 (Has.at Hs10 hin10 (own_getD _ _)) (g := (mkF m 90 #[.val (.ref a0), .val (.ref a1), .val (.int (Int32.ofNat cnt)), .val (.ref a3), .val (.ref a4), .val (.int (1 : Int32)), .val (.int (Int32.ofNat i)), .val (.int (Int32.ofNat i)), .val (.long (0 : Int64)), .second, .val (.int (0 : Int32))] [(.int (Int32.ofNat i)), (.ref a3), (.ref zr), (.long (0 : Int64))])) rfl rfl (hb hby d7_90)) ?_
          rw [own_tn (by omega)]
          show OGo p e below _ (T.setTop (mkF m 91 #[.val (.ref a0), .val (.ref a1), .val (.int (Int32.ofNat cnt)), .val (.ref a3), .val (.ref a4), .val (.int (1 : Int32)), .val (.int (Int32.ofNat i)), .val (.int (Int32.ofNat i)), .val (.long (0 : Int64)), .second, .val (.int (0 : Int32))] [(.int (R1.getD i 0)), (.ref zr), (.long (0 : Int64))]))
          obtain ⟨cl11, Ar11, q11, S11, M11, Hs11, G11⟩ := id fr_
          have hin11 := inb_of (j := (R1.getD i 0)) S11 (hR1.2 _ (by omega))
          refine OGo.by (X.iaload hx (j := (R1.getD i 0)) (v := (.int (R2.getD ((R1.getD i 0)).toNatClampNeg 0))) (by rw [eT]; exact Ar11.1) (State.isArrayOf_alike hZ.alike Ar11.2.1) Ar11.2.2 hin11 (Has.at Hs11 hin11 (own_getD _ _)) (g := (mkF m 91 #[.val (.ref a0), .val (.ref a1), .val (.int (Int32.ofNat cnt)), .val (.ref a3), .val (.ref a4), .val (.int (1 : Int32)), .val (.int (Int32.ofNat i)), .val (.int (Int32.ofNat i)), .val (.long (0 : Int64)), .second, .val (.int (0 : Int32))] [(.int (R1.getD i 0)), (.ref zr), (.long (0 : Int64))])) rfl rfl (hb hby d7_91)) ?_
          show OGo p e below _ (T.setTop (mkF m 92 #[.val (.ref a0), .val (.ref a1), .val (.int (Int32.ofNat cnt)), .val (.ref a3), .val (.ref a4), .val (.int (1 : Int32)), .val (.int (Int32.ofNat i)), .val (.int (Int32.ofNat i)), .val (.long (0 : Int64)), .second, .val (.int (0 : Int32))] [(.int (own_K R1 R2 i)), (.long (0 : Int64))]))
          refine OGo.by (fun _ k => XS.i2l X.here hx rfl (hb hby d7_92) rfl k) ?_
          show OGo p e below _ (T.setTop (mkF m 93 #[.val (.ref a0), .val (.ref a1), .val (.int (Int32.ofNat cnt)), .val (.ref a3), .val (.ref a4), .val (.int (1 : Int32)), .val (.int (Int32.ofNat i)), .val (.int (Int32.ofNat i)), .val (.long (0 : Int64)), .second, .val (.int (0 : Int32))] [(.long ((own_K R1 R2 i).toInt64)), (.long (0 : Int64))]))
          refine OGo.by (fun _ k => XS.lxor X.here hx rfl (hb hby d7_93) rfl k) ?_
          show OGo p e below _ (T.setTop (mkF m 94 #[.val (.ref a0), .val (.ref a1), .val (.int (Int32.ofNat cnt)), .val (.ref a3), .val (.ref a4), .val (.int (1 : Int32)), .val (.int (Int32.ofNat i)), .val (.int (Int32.ofNat i)), .val (.long (0 : Int64)), .second, .val (.int (0 : Int32))] [(.long ((0 : Int64) ^^^ ((own_K R1 R2 i).toInt64)))]))
          refine OGo.by (X.ldc2Long hx hown (mvT hZ (hw _ (List.mem_of_getElem? (i := 57) rfl))) (g := (mkF m 94 #[.val (.ref a0), .val (.ref a1), .val (.int (Int32.ofNat cnt)), .val (.ref a3), .val (.ref a4), .val (.int (1 : Int32)), .val (.int (Int32.ofNat i)), .val (.int (Int32.ofNat i)), .val (.long (0 : Int64)), .second, .val (.int (0 : Int32))] [(.long ((0 : Int64) ^^^ ((own_K R1 R2 i).toInt64)))])) rfl (hb hby d7_94)) ?_
          show OGo p e below _ (T.setTop (mkF m 97 #[.val (.ref a0), .val (.ref a1), .val (.int (Int32.ofNat cnt)), .val (.ref a3), .val (.ref a4), .val (.int (1 : Int32)), .val (.int (Int32.ofNat i)), .val (.int (Int32.ofNat i)), .val (.long (0 : Int64)), .second, .val (.int (0 : Int32))] [(.long (-7046029254386353131 : Int64)), (.long ((0 : Int64) ^^^ ((own_K R1 R2 i).toInt64)))]))
          refine OGo.by (fun _ k => XS.lmul X.here hx rfl (hb hby d7_97) rfl k) ?_
          show OGo p e below _ (T.setTop (mkF m 98 #[.val (.ref a0), .val (.ref a1), .val (.int (Int32.ofNat cnt)), .val (.ref a3), .val (.ref a4), .val (.int (1 : Int32)), .val (.int (Int32.ofNat i)), .val (.int (Int32.ofNat i)), .val (.long (0 : Int64)), .second, .val (.int (0 : Int32))] [(.long (((0 : Int64) ^^^ ((own_K R1 R2 i).toInt64)) * (-7046029254386353131 : Int64)))]))
          refine OGo.by (fun _ k => XS.lstore X.here hx rfl (hb hby d7_98) rfl (l' := #[.val (.ref a0), .val (.ref a1), .val (.int (Int32.ofNat cnt)), .val (.ref a3), .val (.ref a4), .val (.int (1 : Int32)), .val (.int (Int32.ofNat i)), .val (.int (Int32.ofNat i)), .val (.long (((0 : Int64) ^^^ ((own_K R1 R2 i).toInt64)) * (-7046029254386353131 : Int64))), .second, .val (.int (0 : Int32))]) rfl k) ?_
          show OGo p e below _ (T.setTop (mkF m 100 #[.val (.ref a0), .val (.ref a1), .val (.int (Int32.ofNat cnt)), .val (.ref a3), .val (.ref a4), .val (.int (1 : Int32)), .val (.int (Int32.ofNat i)), .val (.int (Int32.ofNat i)), .val (.long (((0 : Int64) ^^^ ((own_K R1 R2 i).toInt64)) * (-7046029254386353131 : Int64))), .second, .val (.int (0 : Int32))] []))
          refine OGo.by (fun _ k => XS.iinc X.here hx rfl (hb hby d7_100) rfl (l' := #[.val (.ref a0), .val (.ref a1), .val (.int (Int32.ofNat cnt)), .val (.ref a3), .val (.ref a4), .val (.int (1 : Int32)), .val (.int (Int32.ofNat i)), .val (.int (Int32.ofNat i)), .val (.long (((0 : Int64) ^^^ ((own_K R1 R2 i).toInt64)) * (-7046029254386353131 : Int64))), .second, .val (.int (1 : Int32))]) rfl k) ?_
          show OGo p e below _ (T.setTop (mkF m 103 #[.val (.ref a0), .val (.ref a1), .val (.int (Int32.ofNat cnt)), .val (.ref a3), .val (.ref a4), .val (.int (1 : Int32)), .val (.int (Int32.ofNat i)), .val (.int (Int32.ofNat i)), .val (.long (((0 : Int64) ^^^ ((own_K R1 R2 i).toInt64)) * (-7046029254386353131 : Int64))), .second, .val (.int (1 : Int32))] []))
          refine OGo.by (fun _ k => XS.goto X.here hx rfl (pc0 := 103) (pc' := 67) rfl (hb hby d7_103) (by decide) (by decide) k) ?_
          show OGo p e below _ (T.setTop (mkF m 67 #[.val (.ref a0), .val (.ref a1), .val (.int (Int32.ofNat cnt)), .val (.ref a3), .val (.ref a4), .val (.int (1 : Int32)), .val (.int (Int32.ofNat i)), .val (.int (Int32.ofNat i)), .val (.long (((0 : Int64) ^^^ ((own_K R1 R2 i).toInt64)) * (-7046029254386353131 : Int64))), .second, .val (.int (1 : Int32))] []))
          refine OGo.by (fun _ k => XS.iload X.here hx rfl (hb hby d7_67) rfl k) ?_
          show OGo p e below _ (T.setTop (mkF m 69 #[.val (.ref a0), .val (.ref a1), .val (.int (Int32.ofNat cnt)), .val (.ref a3), .val (.ref a4), .val (.int (1 : Int32)), .val (.int (Int32.ofNat i)), .val (.int (Int32.ofNat i)), .val (.long (((0 : Int64) ^^^ ((own_K R1 R2 i).toInt64)) * (-7046029254386353131 : Int64))), .second, .val (.int (1 : Int32))] [(.int (1 : Int32))]))
          refine OGo.by (fun _ k => XS.iload X.here hx rfl (hb hby d7_69) rfl k) ?_
          show OGo p e below _ (T.setTop (mkF m 71 #[.val (.ref a0), .val (.ref a1), .val (.int (Int32.ofNat cnt)), .val (.ref a3), .val (.ref a4), .val (.int (1 : Int32)), .val (.int (Int32.ofNat i)), .val (.int (Int32.ofNat i)), .val (.long (((0 : Int64) ^^^ ((own_K R1 R2 i).toInt64)) * (-7046029254386353131 : Int64))), .second, .val (.int (1 : Int32))] [(.int (1 : Int32)), (.int (1 : Int32))]))
          refine OGo.by (fun _ k => XS.icmpYes X.here hx rfl (pc0 := 71) (pc' := 106) rfl (hb hby d7_71) rfl (flt (by decide : ¬ ((1 : Int32) < (1 : Int32)))).2.1 (by decide) (by decide) k) ?_
          show OGo p e below _ (T.setTop (mkF m 106 #[.val (.ref a0), .val (.ref a1), .val (.int (Int32.ofNat cnt)), .val (.ref a3), .val (.ref a4), .val (.int (1 : Int32)), .val (.int (Int32.ofNat i)), .val (.int (Int32.ofNat i)), .val (.long (((0 : Int64) ^^^ ((own_K R1 R2 i).toInt64)) * (-7046029254386353131 : Int64))), .second, .val (.int (1 : Int32))] []))
          refine OGo.by (fun _ k => XS.lload X.here hx rfl (hb hby d7_106) rfl k) ?_
          show OGo p e below _ (T.setTop (mkF m 108 #[.val (.ref a0), .val (.ref a1), .val (.int (Int32.ofNat cnt)), .val (.ref a3), .val (.ref a4), .val (.int (1 : Int32)), .val (.int (Int32.ofNat i)), .val (.int (Int32.ofNat i)), .val (.long (((0 : Int64) ^^^ ((own_K R1 R2 i).toInt64)) * (-7046029254386353131 : Int64))), .second, .val (.int (1 : Int32))] [(.long (((0 : Int64) ^^^ ((own_K R1 R2 i).toInt64)) * (-7046029254386353131 : Int64)))]))
          refine OGo.by (fun _ k => XS.aloadN X.here hx rfl (hb hby d7_108) rfl rfl k) ?_
          show OGo p e below _ (T.setTop (mkF m 109 #[.val (.ref a0), .val (.ref a1), .val (.int (Int32.ofNat cnt)), .val (.ref a3), .val (.ref a4), .val (.int (1 : Int32)), .val (.int (Int32.ofNat i)), .val (.int (Int32.ofNat i)), .val (.long (((0 : Int64) ^^^ ((own_K R1 R2 i).toInt64)) * (-7046029254386353131 : Int64))), .second, .val (.int (1 : Int32))] [(.ref a0), (.long (((0 : Int64) ^^^ ((own_K R1 R2 i).toInt64)) * (-7046029254386353131 : Int64)))]))
          obtain ⟨T12, X12, e12, st12⟩ := getF X hx hZ hown (host := "") (Or.inl (hw _ (List.mem_of_getElem? (i := 37) rfl))) Via.refl eT fH (g := (mkF m 109 #[.val (.ref a0), .val (.ref a1), .val (.int (Int32.ofNat cnt)), .val (.ref a3), .val (.ref a4), .val (.int (1 : Int32)), .val (.int (Int32.ofNat i)), .val (.int (Int32.ofNat i)), .val (.long (((0 : Int64) ^^^ ((own_K R1 R2 i).toInt64)) * (-7046029254386353131 : Int64))), .second, .val (.int (1 : Int32))] [(.ref a0), (.long (((0 : Int64) ^^^ ((own_K R1 R2 i).toInt64)) * (-7046029254386353131 : Int64)))])) rfl rfl (hb hby d7_109)
          refine OGo.by st12 ?_
          show OGo p e below _ (T12.setTop (mkF m 112 #[.val (.ref a0), .val (.ref a1), .val (.int (Int32.ofNat cnt)), .val (.ref a3), .val (.ref a4), .val (.int (1 : Int32)), .val (.int (Int32.ofNat i)), .val (.int (Int32.ofNat i)), .val (.long (((0 : Int64) ^^^ ((own_K R1 R2 i).toInt64)) * (-7046029254386353131 : Int64))), .second, .val (.int (1 : Int32))] [(.int sh), (.long (((0 : Int64) ^^^ ((own_K R1 R2 i).toInt64)) * (-7046029254386353131 : Int64)))]))
          refine OGo.by (fun _ k => XS.lushr X12.here hx rfl (hb hby d7_112) rfl k) ?_
          show OGo p e below _ (T12.setTop (mkF m 113 #[.val (.ref a0), .val (.ref a1), .val (.int (Int32.ofNat cnt)), .val (.ref a3), .val (.ref a4), .val (.int (1 : Int32)), .val (.int (Int32.ofNat i)), .val (.int (Int32.ofNat i)), .val (.long (((0 : Int64) ^^^ ((own_K R1 R2 i).toInt64)) * (-7046029254386353131 : Int64))), .second, .val (.int (1 : Int32))] [(.long (((((0 : Int64) ^^^ ((own_K R1 R2 i).toInt64)) * (-7046029254386353131 : Int64)).toUInt64 >>> (sh &&& 0x3f).toInt64.toUInt64).toInt64))]))
          refine OGo.by (fun _ k => XS.l2i X12.here hx rfl (hb hby d7_113) rfl k) ?_
          show OGo p e below _ (T12.setTop (mkF m 114 #[.val (.ref a0), .val (.ref a1), .val (.int (Int32.ofNat cnt)), .val (.ref a3), .val (.ref a4), .val (.int (1 : Int32)), .val (.int (Int32.ofNat i)), .val (.int (Int32.ofNat i)), .val (.long (((0 : Int64) ^^^ ((own_K R1 R2 i).toInt64)) * (-7046029254386353131 : Int64))), .second, .val (.int (1 : Int32))] [(.int ((((((0 : Int64) ^^^ ((own_K R1 R2 i).toInt64)) * (-7046029254386353131 : Int64)).toUInt64 >>> (sh &&& 0x3f).toInt64.toUInt64).toInt64).toInt32))]))
          rw [show ((((((0 : Int64) ^^^ ((own_K R1 R2 i).toInt64)) * (-7046029254386353131 : Int64)).toUInt64 >>> (sh &&& 0x3f).toInt64.toUInt64).toInt64).toInt32) = Int32.ofNat (own_h sh (own_K R1 R2 i)) from (own_hash hcf _).1]
          show OGo p e below _ (T12.setTop (mkF m 114 #[.val (.ref a0), .val (.ref a1), .val (.int (Int32.ofNat cnt)), .val (.ref a3), .val (.ref a4), .val (.int (1 : Int32)), .val (.int (Int32.ofNat i)), .val (.int (Int32.ofNat i)), .val (.long (((0 : Int64) ^^^ ((own_K R1 R2 i).toInt64)) * (-7046029254386353131 : Int64))), .second, .val (.int (1 : Int32))] [(.int (Int32.ofNat (own_h sh (own_K R1 R2 i))))]))
          refine OGo.by (fun _ k => XS.istore X12.here hx rfl (hb hby d7_114) rfl (l' := #[.val (.ref a0), .val (.ref a1), .val (.int (Int32.ofNat cnt)), .val (.ref a3), .val (.ref a4), .val (.int (1 : Int32)), .val (.int (Int32.ofNat i)), .val (.int (Int32.ofNat i)), .val (.long (((0 : Int64) ^^^ ((own_K R1 R2 i).toInt64)) * (-7046029254386353131 : Int64))), .second, .val (.int (Int32.ofNat (own_h sh (own_K R1 R2 i))))]) rfl k) ?_
          show OGo p e below _ (T12.setTop (mkF m 116 #[.val (.ref a0), .val (.ref a1), .val (.int (Int32.ofNat cnt)), .val (.ref a3), .val (.ref a4), .val (.int (1 : Int32)), .val (.int (Int32.ofNat i)), .val (.int (Int32.ofNat i)), .val (.long (((0 : Int64) ^^^ ((own_K R1 R2 i).toInt64)) * (-7046029254386353131 : Int64))), .second, .val (.int (Int32.ofNat (own_h sh (own_K R1 R2 i))))] []))
          obtain ⟨rR, hR⟩ : ∃ z, own_pr gg (own_K R1 R2) (own_K R1 R2 i) mm 3 (own_h sh (own_K R1 R2 i)) = z := ⟨_, rfl⟩
          have hRM : rR < mm := own_Inv_rlt hI (by omega) hcM.1 hHM hR
          have STEP := own_Inv_step hI (by omega) hcM.1 hcM.2.2.1 hHM hR
          have hFI : own_fin gg (own_K R1 R2) (own_K R1 R2 i) mm 3 (own_h sh (own_K R1 R2 i)) := own_Inv_fin hI (by omega) hcM.1 hHM
          have hnc := own_Inv_nb hI (by omega)
          have J163 : ∀ (Tc : State) (lc : List Loc), Stand p l e ({ frames := 1, cells := 0, slots := 0, locals := 18 } : Room) s m #[(.ref a0), (.ref a1), (.int (Int32.ofNat cnt)), (.ref a3), (.ref a4)] below meth c Tc lc 0 0 → Tc.heap = hh → Fr n0 lc → OGo p e below (fun U' o => ∃ v L, o = .returned v ∧ Q_rm_so Z a0 a1 a3 a4 cnt mm cc nb ml sh cpI wu zf zs zn zr ku kv kr kn kf ks kx R1 R2 lF lS lX h0 n0 v U'.heap L ∧ FrameEnd s o U' L (({ frames := 1, cells := 0, slots := 0, locals := 18 } : Room)).cells (({ frames := 1, cells := 0, slots := 0, locals := 18 } : Room)).slots) (Tc.setTop (mkF m 163 #[.val (.ref a0), .val (.ref a1), .val (.int (Int32.ofNat cnt)), .val (.ref a3), .val (.ref a4), .val (.int (1 : Int32)), .val (.int (Int32.ofNat i)), .val (.int (Int32.ofNat i)), .val (.long (((0 : Int64) ^^^ ((own_K R1 R2 i).toInt64)) * (-7046029254386353131 : Int64))), .second, .val (.int (Int32.ofNat rR))] [])) := by
            intro Tc lc Xc eC Nc
            refine OGo.by (fun _ k => XS.aloadN Xc.here hx rfl (hb hby d7_163) rfl rfl k) ?_
            show OGo p e below _ (Tc.setTop (mkF m 164 #[.val (.ref a0), .val (.ref a1), .val (.int (Int32.ofNat cnt)), .val (.ref a3), .val (.ref a4), .val (.int (1 : Int32)), .val (.int (Int32.ofNat i)), .val (.int (Int32.ofNat i)), .val (.long (((0 : Int64) ^^^ ((own_K R1 R2 i).toInt64)) * (-7046029254386353131 : Int64))), .second, .val (.int (Int32.ofNat rR))] [(.ref a0)]))
            obtain ⟨T13, X13, e13, st13⟩ := getF Xc hx hZ hown (host := "") (Or.inl (hw _ (List.mem_of_getElem? (i := 27) rfl))) Via.refl eC fF (g := (mkF m 164 #[.val (.ref a0), .val (.ref a1), .val (.int (Int32.ofNat cnt)), .val (.ref a3), .val (.ref a4), .val (.int (1 : Int32)), .val (.int (Int32.ofNat i)), .val (.int (Int32.ofNat i)), .val (.long (((0 : Int64) ^^^ ((own_K R1 R2 i).toInt64)) * (-7046029254386353131 : Int64))), .second, .val (.int (Int32.ofNat rR))] [(.ref a0)])) rfl rfl (hb hby d7_164)
            refine OGo.by st13 ?_
            show OGo p e below _ (T13.setTop (mkF m 167 #[.val (.ref a0), .val (.ref a1), .val (.int (Int32.ofNat cnt)), .val (.ref a3), .val (.ref a4), .val (.int (1 : Int32)), .val (.int (Int32.ofNat i)), .val (.int (Int32.ofNat i)), .val (.long (((0 : Int64) ^^^ ((own_K R1 R2 i).toInt64)) * (-7046029254386353131 : Int64))), .second, .val (.int (Int32.ofNat rR))] [(.ref zf)]))
            refine OGo.by (fun _ k => XS.iload X13.here hx rfl (hb hby d7_167) rfl k) ?_
            show OGo p e below _ (T13.setTop (mkF m 169 #[.val (.ref a0), .val (.ref a1), .val (.int (Int32.ofNat cnt)), .val (.ref a3), .val (.ref a4), .val (.int (1 : Int32)), .val (.int (Int32.ofNat i)), .val (.int (Int32.ofNat i)), .val (.long (((0 : Int64) ^^^ ((own_K R1 R2 i).toInt64)) * (-7046029254386353131 : Int64))), .second, .val (.int (Int32.ofNat rR))] [(.int (Int32.ofNat rR)), (.ref zf)]))
            obtain ⟨cl14, Ar14, q14, S14, M14, Hs14, G14⟩ := id fG
            have hin14 := inb_of (j := (Int32.ofNat rR)) S14 (own_inM hcf hRM)
            refine OGo.by (X13.iaload hx (j := (Int32.ofNat rR)) (v := (.int (gg.getD ((Int32.ofNat rR)).toNatClampNeg 0))) (by rw [e13]; exact Ar14.1) (State.isArrayOf_alike hZ.alike Ar14.2.1) Ar14.2.2 hin14 (Has.at Hs14 hin14 (own_getD _ _)) (g := (mkF m 169 #[.val (.ref a0), .val (.ref a1), .val (.int (Int32.ofNat cnt)), .val (.ref a3), .val (.ref a4), .val (.int (1 : Int32)), .val (.int (Int32.ofNat i)), .val (.int (Int32.ofNat i)), .val (.long (((0 : Int64) ^^^ ((own_K R1 R2 i).toInt64)) * (-7046029254386353131 : Int64))), .second, .val (.int (Int32.ofNat rR))] [(.int (Int32.ofNat rR)), (.ref zf)])) rfl rfl (hb hby d7_169)) ?_
            rw [own_tn (by omega)]
            show OGo p e below _ (T13.setTop (mkF m 170 #[.val (.ref a0), .val (.ref a1), .val (.int (Int32.ofNat cnt)), .val (.ref a3), .val (.ref a4), .val (.int (1 : Int32)), .val (.int (Int32.ofNat i)), .val (.int (Int32.ofNat i)), .val (.long (((0 : Int64) ^^^ ((own_K R1 R2 i).toInt64)) * (-7046029254386353131 : Int64))), .second, .val (.int (Int32.ofNat rR))] [(.int (gg.getD rR 0))]))
            by_cases hc170_15 : (gg.getD rR 0) < (0 : Int32)
            · refine OGo.by (fun _ k => XS.ifNo X13.here hx rfl (hb hby d7_170) rfl ((if0 _ _).trans (tlt hc170_15).2.1) k) ?_
              show OGo p e below _ (T13.setTop (mkF m 173 #[.val (.ref a0), .val (.ref a1), .val (.int (Int32.ofNat cnt)), .val (.ref a3), .val (.ref a4), .val (.int (1 : Int32)), .val (.int (Int32.ofNat i)), .val (.int (Int32.ofNat i)), .val (.long (((0 : Int64) ^^^ ((own_K R1 R2 i).toInt64)) * (-7046029254386353131 : Int64))), .second, .val (.int (Int32.ofNat rR))] []))
              refine OGo.by (fun _ k => XS.aloadN X13.here hx rfl (hb hby d7_173) rfl rfl k) ?_
              show OGo p e below _ (T13.setTop (mkF m 174 #[.val (.ref a0), .val (.ref a1), .val (.int (Int32.ofNat cnt)), .val (.ref a3), .val (.ref a4), .val (.int (1 : Int32)), .val (.int (Int32.ofNat i)), .val (.int (Int32.ofNat i)), .val (.long (((0 : Int64) ^^^ ((own_K R1 R2 i).toInt64)) * (-7046029254386353131 : Int64))), .second, .val (.int (Int32.ofNat rR))] [(.ref a0)]))
              obtain ⟨T16, X16, e16, st16⟩ := getF X13 hx hZ hown (host := "") (Or.inl (hw _ (List.mem_of_getElem? (i := 35) rfl))) Via.refl e13 fS (g := (mkF m 174 #[.val (.ref a0), .val (.ref a1), .val (.int (Int32.ofNat cnt)), .val (.ref a3), .val (.ref a4), .val (.int (1 : Int32)), .val (.int (Int32.ofNat i)), .val (.int (Int32.ofNat i)), .val (.long (((0 : Int64) ^^^ ((own_K R1 R2 i).toInt64)) * (-7046029254386353131 : Int64))), .second, .val (.int (Int32.ofNat rR))] [(.ref a0)])) rfl rfl (hb hby d7_174)
              refine OGo.by st16 ?_
              show OGo p e below _ (T16.setTop (mkF m 177 #[.val (.ref a0), .val (.ref a1), .val (.int (Int32.ofNat cnt)), .val (.ref a3), .val (.ref a4), .val (.int (1 : Int32)), .val (.int (Int32.ofNat i)), .val (.int (Int32.ofNat i)), .val (.long (((0 : Int64) ^^^ ((own_K R1 R2 i).toInt64)) * (-7046029254386353131 : Int64))), .second, .val (.int (Int32.ofNat rR))] [(.ref zs)]))
              refine OGo.by (fun _ k => XS.aloadN X16.here hx rfl (hb hby d7_177) rfl rfl k) ?_
              show OGo p e below _ (T16.setTop (mkF m 178 #[.val (.ref a0), .val (.ref a1), .val (.int (Int32.ofNat cnt)), .val (.ref a3), .val (.ref a4), .val (.int (1 : Int32)), .val (.int (Int32.ofNat i)), .val (.int (Int32.ofNat i)), .val (.long (((0 : Int64) ^^^ ((own_K R1 R2 i).toInt64)) * (-7046029254386353131 : Int64))), .second, .val (.int (Int32.ofNat rR))] [(.ref a0), (.ref zs)]))
              refine OGo.by (fun _ k => XS.dup X16.here hx rfl (hb hby d7_178) rfl rfl k) ?_
              show OGo p e below _ (T16.setTop (mkF m 179 #[.val (.ref a0), .val (.ref a1), .val (.int (Int32.ofNat cnt)), .val (.ref a3), .val (.ref a4), .val (.int (1 : Int32)), .val (.int (Int32.ofNat i)), .val (.int (Int32.ofNat i)), .val (.long (((0 : Int64) ^^^ ((own_K R1 R2 i).toInt64)) * (-7046029254386353131 : Int64))), .second, .val (.int (Int32.ofNat rR))] [(.ref a0), (.ref a0), (.ref zs)]))
              obtain ⟨T17, X17, e17, st17⟩ := getF X16 hx hZ hown (host := "") (Or.inl (hw _ (List.mem_of_getElem? (i := 44) rfl))) Via.refl e16 fB (g := (mkF m 179 #[.val (.ref a0), .val (.ref a1), .val (.int (Int32.ofNat cnt)), .val (.ref a3), .val (.ref a4), .val (.int (1 : Int32)), .val (.int (Int32.ofNat i)), .val (.int (Int32.ofNat i)), .val (.long (((0 : Int64) ^^^ ((own_K R1 R2 i).toInt64)) * (-7046029254386353131 : Int64))), .second, .val (.int (Int32.ofNat rR))] [(.ref a0), (.ref a0), (.ref zs)])) rfl rfl (hb hby d7_179)
              refine OGo.by st17 ?_
              show OGo p e below _ (T17.setTop (mkF m 182 #[.val (.ref a0), .val (.ref a1), .val (.int (Int32.ofNat cnt)), .val (.ref a3), .val (.ref a4), .val (.int (1 : Int32)), .val (.int (Int32.ofNat i)), .val (.int (Int32.ofNat i)), .val (.long (((0 : Int64) ^^^ ((own_K R1 R2 i).toInt64)) * (-7046029254386353131 : Int64))), .second, .val (.int (Int32.ofNat rR))] [(.int (Int32.ofNat nc)), (.ref a0), (.ref zs)]))
              refine OGo.by (fun _ k => XS.dupX1 X17.here hx rfl (hb hby d7_182) rfl rfl rfl k) ?_
              show OGo p e below _ (T17.setTop (mkF m 183 #[.val (.ref a0), .val (.ref a1), .val (.int (Int32.ofNat cnt)), .val (.ref a3), .val (.ref a4), .val (.int (1 : Int32)), .val (.int (Int32.ofNat i)), .val (.int (Int32.ofNat i)), .val (.long (((0 : Int64) ^^^ ((own_K R1 R2 i).toInt64)) * (-7046029254386353131 : Int64))), .second, .val (.int (Int32.ofNat rR))] [(.int (Int32.ofNat nc)), (.ref a0), (.int (Int32.ofNat nc)), (.ref zs)]))
              refine OGo.by (fun _ k => XS.iconst X17.here hx rfl (hb hby d7_183) k) ?_
              show OGo p e below _ (T17.setTop (mkF m 184 #[.val (.ref a0), .val (.ref a1), .val (.int (Int32.ofNat cnt)), .val (.ref a3), .val (.ref a4), .val (.int (1 : Int32)), .val (.int (Int32.ofNat i)), .val (.int (Int32.ofNat i)), .val (.long (((0 : Int64) ^^^ ((own_K R1 R2 i).toInt64)) * (-7046029254386353131 : Int64))), .second, .val (.int (Int32.ofNat rR))] [(.int (1 : Int32)), (.int (Int32.ofNat nc)), (.ref a0), (.int (Int32.ofNat nc)), (.ref zs)]))
              refine OGo.by (fun _ k => XS.iadd X17.here hx rfl (hb hby d7_184) rfl k) ?_
              show OGo p e below _ (T17.setTop (mkF m 185 #[.val (.ref a0), .val (.ref a1), .val (.int (Int32.ofNat cnt)), .val (.ref a3), .val (.ref a4), .val (.int (1 : Int32)), .val (.int (Int32.ofNat i)), .val (.int (Int32.ofNat i)), .val (.long (((0 : Int64) ^^^ ((own_K R1 R2 i).toInt64)) * (-7046029254386353131 : Int64))), .second, .val (.int (Int32.ofNat rR))] [(.int ((Int32.ofNat nc) + (1 : Int32))), (.ref a0), (.int (Int32.ofNat nc)), (.ref zs)]))
              rw [own_up1 nc]
              show OGo p e below _ (T17.setTop (mkF m 185 #[.val (.ref a0), .val (.ref a1), .val (.int (Int32.ofNat cnt)), .val (.ref a3), .val (.ref a4), .val (.int (1 : Int32)), .val (.int (Int32.ofNat i)), .val (.int (Int32.ofNat i)), .val (.long (((0 : Int64) ^^^ ((own_K R1 R2 i).toInt64)) * (-7046029254386353131 : Int64))), .second, .val (.int (Int32.ofNat rR))] [(.int (Int32.ofNat (nc + 1))), (.ref a0), (.int (Int32.ofNat nc)), (.ref zs)]))
              obtain ⟨T18, h18, X18, e18, W18, st18⟩ := putF X17 hx hZ hown (host := "") (Or.inl (hw _ (List.mem_of_getElem? (i := 44) rfl))) Via.refl e17 fB fE (Or.inl (hw _ (List.mem_of_getElem? (i := 45) rfl))) (hw _ (List.mem_of_getElem? (i := 5) rfl)) (ty := .int) (by decide) rfl rfl (g := (mkF m 185 #[.val (.ref a0), .val (.ref a1), .val (.int (Int32.ofNat cnt)), .val (.ref a3), .val (.ref a4), .val (.int (1 : Int32)), .val (.int (Int32.ofNat i)), .val (.int (Int32.ofNat i)), .val (.long (((0 : Int64) ^^^ ((own_K R1 R2 i).toInt64)) * (-7046029254386353131 : Int64))), .second, .val (.int (Int32.ofNat rR))] [(.int (Int32.ofNat (nc + 1))), (.ref a0), (.int (Int32.ofNat nc)), (.ref zs)])) rfl rfl (hb hby d7_185)
              refine OGo.by st18 ?_
              have Fw18 := fB.same W18
              have N18 := Fr.snoc X18 Nc g_a0
              have K18 : Keep h0 h18 [a0, zf, zs, zn] := (KK).wr W18 (Or.inl (List.mem_of_getElem? (i := 0) rfl))
              show OGo p e below _ (T18.setTop (mkF m 188 #[.val (.ref a0), .val (.ref a1), .val (.int (Int32.ofNat cnt)), .val (.ref a3), .val (.ref a4), .val (.int (1 : Int32)), .val (.int (Int32.ofNat i)), .val (.int (Int32.ofNat i)), .val (.long (((0 : Int64) ^^^ ((own_K R1 R2 i).toInt64)) * (-7046029254386353131 : Int64))), .second, .val (.int (Int32.ofNat rR))] [(.int (Int32.ofNat nc)), (.ref zs)]))
              refine OGo.by (fun _ k => XS.iload X18.here hx rfl (hb hby d7_188) rfl k) ?_
              show OGo p e below _ (T18.setTop (mkF m 190 #[.val (.ref a0), .val (.ref a1), .val (.int (Int32.ofNat cnt)), .val (.ref a3), .val (.ref a4), .val (.int (1 : Int32)), .val (.int (Int32.ofNat i)), .val (.int (Int32.ofNat i)), .val (.long (((0 : Int64) ^^^ ((own_K R1 R2 i).toInt64)) * (-7046029254386353131 : Int64))), .second, .val (.int (Int32.ofNat rR))] [(.int (Int32.ofNat rR)), (.int (Int32.ofNat nc)), (.ref zs)]))
              have f19 : Arv Z h18 zs ks .int cpI (lT.map Value.int) (.int (0 : Int32)) := (fT.other W18 (Ne.symm ne_a0_zs))
              obtain ⟨cl20, Ar20, q20, S20, M20, Hs20, G20⟩ := id f19
              obtain ⟨T20, h20, X20, e20, W20, st20⟩ := stI X18 hx hZ e18 Ar20 (j := (Int32.ofNat nc)) (inb_of S20 (own_inC hcf (by omega))) (g := (mkF m 190 #[.val (.ref a0), .val (.ref a1), .val (.int (Int32.ofNat cnt)), .val (.ref a3), .val (.ref a4), .val (.int (1 : Int32)), .val (.int (Int32.ofNat i)), .val (.int (Int32.ofNat i)), .val (.long (((0 : Int64) ^^^ ((own_K R1 R2 i).toInt64)) * (-7046029254386353131 : Int64))), .second, .val (.int (Int32.ofNat rR))] [(.int (Int32.ofNat rR)), (.int (Int32.ofNat nc)), (.ref zs)])) rfl rfl (hb hby d7_190)
              refine OGo.by st20 ?_
              have N20 := Fr.snoc X20 N18 g_zs
              have K20 : Keep h0 h20 [a0, zf, zs, zn] := (K18).wr W20 (Or.inl (List.mem_of_getElem? (i := 2) rfl))
              have V20 : Arv Z h20 zs ks .int cpI ((lT.set ((Int32.ofNat nc)).toNatClampNeg (Int32.ofNat rR)).map Value.int) (.int (0 : Int32)) := by rw [List.map_set]; exact Arv.set Ar20 q20 S20 M20 Hs20 G20 rfl W20 _ rfl (by rw [List.length_map]; exact (by have := own_tn (i := nc) (by omega); have := hI.2.1; omega))
              show OGo p e below _ (T20.setTop (mkF m 191 #[.val (.ref a0), .val (.ref a1), .val (.int (Int32.ofNat cnt)), .val (.ref a3), .val (.ref a4), .val (.int (1 : Int32)), .val (.int (Int32.ofNat i)), .val (.int (Int32.ofNat i)), .val (.long (((0 : Int64) ^^^ ((own_K R1 R2 i).toInt64)) * (-7046029254386353131 : Int64))), .second, .val (.int (Int32.ofNat rR))] []))
              refine OGo.by (fun _ k => XS.aloadN X20.here hx rfl (hb hby d7_191) rfl rfl k) ?_
              show OGo p e below _ (T20.setTop (mkF m 192 #[.val (.ref a0), .val (.ref a1), .val (.int (Int32.ofNat cnt)), .val (.ref a3), .val (.ref a4), .val (.int (1 : Int32)), .val (.int (Int32.ofNat i)), .val (.int (Int32.ofNat i)), .val (.long (((0 : Int64) ^^^ ((own_K R1 R2 i).toInt64)) * (-7046029254386353131 : Int64))), .second, .val (.int (Int32.ofNat rR))] [(.ref a0)]))
              have f21 : Fld Z h20 a0 "com/example/faces_into_crowds/facesintocrowds/Buckets" "mNext" "[I" (.ref zn) := ((fN.other W18 (Or.inr (slot_ne (Or.inr (hw _ (List.mem_of_getElem? (i := 34) rfl))) (Or.inl (hw _ (List.mem_of_getElem? (i := 45) rfl))) (by decide) (t := (.array .int)) (t' := .int) (by decide) (by decide)))).other W20 (Or.inl ne_a0_zs))
              obtain ⟨T22, X22, e22, st22⟩ := getF X20 hx hZ hown (host := "") (Or.inl (hw _ (List.mem_of_getElem? (i := 33) rfl))) Via.refl e20 f21 (g := (mkF m 192 #[.val (.ref a0), .val (.ref a1), .val (.int (Int32.ofNat cnt)), .val (.ref a3), .val (.ref a4), .val (.int (1 : Int32)), .val (.int (Int32.ofNat i)), .val (.int (Int32.ofNat i)), .val (.long (((0 : Int64) ^^^ ((own_K R1 R2 i).toInt64)) * (-7046029254386353131 : Int64))), .second, .val (.int (Int32.ofNat rR))] [(.ref a0)])) rfl rfl (hb hby d7_192)
              refine OGo.by st22 ?_
              show OGo p e below _ (T22.setTop (mkF m 195 #[.val (.ref a0), .val (.ref a1), .val (.int (Int32.ofNat cnt)), .val (.ref a3), .val (.ref a4), .val (.int (1 : Int32)), .val (.int (Int32.ofNat i)), .val (.int (Int32.ofNat i)), .val (.long (((0 : Int64) ^^^ ((own_K R1 R2 i).toInt64)) * (-7046029254386353131 : Int64))), .second, .val (.int (Int32.ofNat rR))] [(.ref zn)]))
              refine OGo.by (fun _ k => XS.iload X22.here hx rfl (hb hby d7_195) rfl k) ?_
              show OGo p e below _ (T22.setTop (mkF m 197 #[.val (.ref a0), .val (.ref a1), .val (.int (Int32.ofNat cnt)), .val (.ref a3), .val (.ref a4), .val (.int (1 : Int32)), .val (.int (Int32.ofNat i)), .val (.int (Int32.ofNat i)), .val (.long (((0 : Int64) ^^^ ((own_K R1 R2 i).toInt64)) * (-7046029254386353131 : Int64))), .second, .val (.int (Int32.ofNat rR))] [(.int (Int32.ofNat i)), (.ref zn)]))
              refine OGo.by (fun _ k => XS.aloadN X22.here hx rfl (hb hby d7_197) rfl rfl k) ?_
              show OGo p e below _ (T22.setTop (mkF m 198 #[.val (.ref a0), .val (.ref a1), .val (.int (Int32.ofNat cnt)), .val (.ref a3), .val (.ref a4), .val (.int (1 : Int32)), .val (.int (Int32.ofNat i)), .val (.int (Int32.ofNat i)), .val (.long (((0 : Int64) ^^^ ((own_K R1 R2 i).toInt64)) * (-7046029254386353131 : Int64))), .second, .val (.int (Int32.ofNat rR))] [(.ref a0), (.int (Int32.ofNat i)), (.ref zn)]))
              have f23 : Fld Z h20 a0 "com/example/faces_into_crowds/facesintocrowds/Buckets" "mFirst" "[I" (.ref zf) := ((fF.other W18 (Or.inr (slot_ne (Or.inr (hw _ (List.mem_of_getElem? (i := 28) rfl))) (Or.inl (hw _ (List.mem_of_getElem? (i := 45) rfl))) (by decide) (t := (.array .int)) (t' := .int) (by decide) (by decide)))).other W20 (Or.inl ne_a0_zs))
              obtain ⟨T24, X24, e24, st24⟩ := getF X22 hx hZ hown (host := "") (Or.inl (hw _ (List.mem_of_getElem? (i := 27) rfl))) Via.refl e22 f23 (g := (mkF m 198 #[.val (.ref a0), .val (.ref a1), .val (.int (Int32.ofNat cnt)), .val (.ref a3), .val (.ref a4), .val (.int (1 : Int32)), .val (.int (Int32.ofNat i)), .val (.int (Int32.ofNat i)), .val (.long (((0 : Int64) ^^^ ((own_K R1 R2 i).toInt64)) * (-7046029254386353131 : Int64))), .second, .val (.int (Int32.ofNat rR))] [(.ref a0), (.int (Int32.ofNat i)), (.ref zn)])) rfl rfl (hb hby d7_198)
              refine OGo.by st24 ?_
              show OGo p e below _ (T24.setTop (mkF m 201 #[.val (.ref a0), .val (.ref a1), .val (.int (Int32.ofNat cnt)), .val (.ref a3), .val (.ref a4), .val (.int (1 : Int32)), .val (.int (Int32.ofNat i)), .val (.int (Int32.ofNat i)), .val (.long (((0 : Int64) ^^^ ((own_K R1 R2 i).toInt64)) * (-7046029254386353131 : Int64))), .second, .val (.int (Int32.ofNat rR))] [(.ref zf), (.int (Int32.ofNat i)), (.ref zn)]))
              refine OGo.by (fun _ k => XS.iload X24.here hx rfl (hb hby d7_201) rfl k) ?_
              show OGo p e below _ (T24.setTop (mkF m 203 #[.val (.ref a0), .val (.ref a1), .val (.int (Int32.ofNat cnt)), .val (.ref a3), .val (.ref a4), .val (.int (1 : Int32)), .val (.int (Int32.ofNat i)), .val (.int (Int32.ofNat i)), .val (.long (((0 : Int64) ^^^ ((own_K R1 R2 i).toInt64)) * (-7046029254386353131 : Int64))), .second, .val (.int (Int32.ofNat rR))] [(.int (Int32.ofNat rR)), (.ref zf), (.int (Int32.ofNat i)), (.ref zn)]))
              have f25 : Arv Z h20 zf kf .int ml (gg.map Value.int) (.int (0 : Int32)) := ((fG.other W18 (Ne.symm ne_a0_zf)).other W20 ne_zf_zs)
              obtain ⟨cl26, Ar26, q26, S26, M26, Hs26, G26⟩ := id f25
              have hin26 := inb_of (j := (Int32.ofNat rR)) S26 (own_inM hcf hRM)
              refine OGo.by (X24.iaload hx (j := (Int32.ofNat rR)) (v := (.int (gg.getD ((Int32.ofNat rR)).toNatClampNeg 0))) (by rw [e24]; exact Ar26.1) (State.isArrayOf_alike hZ.alike Ar26.2.1) Ar26.2.2 hin26 (Has.at Hs26 hin26 (own_getD _ _)) (g := (mkF m 203 #[.val (.ref a0), .val (.ref a1), .val (.int (Int32.ofNat cnt)), .val (.ref a3), .val (.ref a4), .val (.int (1 : Int32)), .val (.int (Int32.ofNat i)), .val (.int (Int32.ofNat i)), .val (.long (((0 : Int64) ^^^ ((own_K R1 R2 i).toInt64)) * (-7046029254386353131 : Int64))), .second, .val (.int (Int32.ofNat rR))] [(.int (Int32.ofNat rR)), (.ref zf), (.int (Int32.ofNat i)), (.ref zn)])) rfl rfl (hb hby d7_203)) ?_
              rw [own_tn (by omega)]
              show OGo p e below _ (T24.setTop (mkF m 204 #[.val (.ref a0), .val (.ref a1), .val (.int (Int32.ofNat cnt)), .val (.ref a3), .val (.ref a4), .val (.int (1 : Int32)), .val (.int (Int32.ofNat i)), .val (.int (Int32.ofNat i)), .val (.long (((0 : Int64) ^^^ ((own_K R1 R2 i).toInt64)) * (-7046029254386353131 : Int64))), .second, .val (.int (Int32.ofNat rR))] [(.int (gg.getD rR 0)), (.int (Int32.ofNat i)), (.ref zn)]))
              have f27 : Arv Z h20 zn kx .int cpI (lY.map Value.int) (.int (0 : Int32)) := ((fX.other W18 (Ne.symm ne_a0_zn)).other W20 (Ne.symm ne_zs_zn))
              obtain ⟨cl28, Ar28, q28, S28, M28, Hs28, G28⟩ := id f27
              obtain ⟨T28, h28, X28, e28, W28, st28⟩ := stI X24 hx hZ e24 Ar28 (j := (Int32.ofNat i)) (inb_of S28 (own_inC hcf (by omega))) (g := (mkF m 204 #[.val (.ref a0), .val (.ref a1), .val (.int (Int32.ofNat cnt)), .val (.ref a3), .val (.ref a4), .val (.int (1 : Int32)), .val (.int (Int32.ofNat i)), .val (.int (Int32.ofNat i)), .val (.long (((0 : Int64) ^^^ ((own_K R1 R2 i).toInt64)) * (-7046029254386353131 : Int64))), .second, .val (.int (Int32.ofNat rR))] [(.int (gg.getD rR 0)), (.int (Int32.ofNat i)), (.ref zn)])) rfl rfl (hb hby d7_204)
              refine OGo.by st28 ?_
              have N28 := Fr.snoc X28 N20 g_zn
              have K28 : Keep h0 h28 [a0, zf, zs, zn] := (K20).wr W28 (Or.inl (List.mem_of_getElem? (i := 3) rfl))
              have V28 : Arv Z h28 zn kx .int cpI ((lY.set ((Int32.ofNat i)).toNatClampNeg (gg.getD rR 0)).map Value.int) (.int (0 : Int32)) := by rw [List.map_set]; exact Arv.set Ar28 q28 S28 M28 Hs28 G28 rfl W28 _ rfl (by rw [List.length_map]; exact (by have := own_tn (i := i) (by omega); omega))
              show OGo p e below _ (T28.setTop (mkF m 205 #[.val (.ref a0), .val (.ref a1), .val (.int (Int32.ofNat cnt)), .val (.ref a3), .val (.ref a4), .val (.int (1 : Int32)), .val (.int (Int32.ofNat i)), .val (.int (Int32.ofNat i)), .val (.long (((0 : Int64) ^^^ ((own_K R1 R2 i).toInt64)) * (-7046029254386353131 : Int64))), .second, .val (.int (Int32.ofNat rR))] []))
              refine OGo.by (fun _ k => XS.aloadN X28.here hx rfl (hb hby d7_205) rfl rfl k) ?_
              show OGo p e below _ (T28.setTop (mkF m 206 #[.val (.ref a0), .val (.ref a1), .val (.int (Int32.ofNat cnt)), .val (.ref a3), .val (.ref a4), .val (.int (1 : Int32)), .val (.int (Int32.ofNat i)), .val (.int (Int32.ofNat i)), .val (.long (((0 : Int64) ^^^ ((own_K R1 R2 i).toInt64)) * (-7046029254386353131 : Int64))), .second, .val (.int (Int32.ofNat rR))] [(.ref a0)]))
              have f29 : Fld Z h28 a0 "com/example/faces_into_crowds/facesintocrowds/Buckets" "mFirst" "[I" (.ref zf) := (f23.other W28 (Or.inl ne_a0_zn))
              obtain ⟨T30, X30, e30, st30⟩ := getF X28 hx hZ hown (host := "") (Or.inl (hw _ (List.mem_of_getElem? (i := 27) rfl))) Via.refl e28 f29 (g := (mkF m 206 #[.val (.ref a0), .val (.ref a1), .val (.int (Int32.ofNat cnt)), .val (.ref a3), .val (.ref a4), .val (.int (1 : Int32)), .val (.int (Int32.ofNat i)), .val (.int (Int32.ofNat i)), .val (.long (((0 : Int64) ^^^ ((own_K R1 R2 i).toInt64)) * (-7046029254386353131 : Int64))), .second, .val (.int (Int32.ofNat rR))] [(.ref a0)])) rfl rfl (hb hby d7_206)
              refine OGo.by st30 ?_
              show OGo p e below _ (T30.setTop (mkF m 209 #[.val (.ref a0), .val (.ref a1), .val (.int (Int32.ofNat cnt)), .val (.ref a3), .val (.ref a4), .val (.int (1 : Int32)), .val (.int (Int32.ofNat i)), .val (.int (Int32.ofNat i)), .val (.long (((0 : Int64) ^^^ ((own_K R1 R2 i).toInt64)) * (-7046029254386353131 : Int64))), .second, .val (.int (Int32.ofNat rR))] [(.ref zf)]))
              refine OGo.by (fun _ k => XS.iload X30.here hx rfl (hb hby d7_209) rfl k) ?_
              show OGo p e below _ (T30.setTop (mkF m 211 #[.val (.ref a0), .val (.ref a1), .val (.int (Int32.ofNat cnt)), .val (.ref a3), .val (.ref a4), .val (.int (1 : Int32)), .val (.int (Int32.ofNat i)), .val (.int (Int32.ofNat i)), .val (.long (((0 : Int64) ^^^ ((own_K R1 R2 i).toInt64)) * (-7046029254386353131 : Int64))), .second, .val (.int (Int32.ofNat rR))] [(.int (Int32.ofNat rR)), (.ref zf)]))
              refine OGo.by (fun _ k => XS.iload X30.here hx rfl (hb hby d7_211) rfl k) ?_
              show OGo p e below _ (T30.setTop (mkF m 213 #[.val (.ref a0), .val (.ref a1), .val (.int (Int32.ofNat cnt)), .val (.ref a3), .val (.ref a4), .val (.int (1 : Int32)), .val (.int (Int32.ofNat i)), .val (.int (Int32.ofNat i)), .val (.long (((0 : Int64) ^^^ ((own_K R1 R2 i).toInt64)) * (-7046029254386353131 : Int64))), .second, .val (.int (Int32.ofNat rR))] [(.int (Int32.ofNat i)), (.int (Int32.ofNat rR)), (.ref zf)]))
              have f31 : Arv Z h28 zf kf .int ml (gg.map Value.int) (.int (0 : Int32)) := (f25.other W28 ne_zf_zn)
              obtain ⟨cl32, Ar32, q32, S32, M32, Hs32, G32⟩ := id f31
              obtain ⟨T32, h32, X32, e32, W32, st32⟩ := stI X30 hx hZ e30 Ar32 (j := (Int32.ofNat rR)) (inb_of S32 (own_inM hcf hRM)) (g := (mkF m 213 #[.val (.ref a0), .val (.ref a1), .val (.int (Int32.ofNat cnt)), .val (.ref a3), .val (.ref a4), .val (.int (1 : Int32)), .val (.int (Int32.ofNat i)), .val (.int (Int32.ofNat i)), .val (.long (((0 : Int64) ^^^ ((own_K R1 R2 i).toInt64)) * (-7046029254386353131 : Int64))), .second, .val (.int (Int32.ofNat rR))] [(.int (Int32.ofNat i)), (.int (Int32.ofNat rR)), (.ref zf)])) rfl rfl (hb hby d7_213)
              refine OGo.by st32 ?_
              have N32 := Fr.snoc X32 N28 g_zf
              have K32 : Keep h0 h32 [a0, zf, zs, zn] := (K28).wr W32 (Or.inl (List.mem_of_getElem? (i := 1) rfl))
              have V32 : Arv Z h32 zf kf .int ml ((gg.set ((Int32.ofNat rR)).toNatClampNeg (Int32.ofNat i)).map Value.int) (.int (0 : Int32)) := by rw [List.map_set]; exact Arv.set Ar32 q32 S32 M32 Hs32 G32 rfl W32 _ rfl (by rw [List.length_map]; exact (by have := own_tn (i := rR) (by omega); have := hI.1; omega))
              show OGo p e below _ (T32.setTop (mkF m 214 #[.val (.ref a0), .val (.ref a1), .val (.int (Int32.ofNat cnt)), .val (.ref a3), .val (.ref a4), .val (.int (1 : Int32)), .val (.int (Int32.ofNat i)), .val (.int (Int32.ofNat i)), .val (.long (((0 : Int64) ^^^ ((own_K R1 R2 i).toInt64)) * (-7046029254386353131 : Int64))), .second, .val (.int (Int32.ofNat rR))] []))
              refine OGo.by (fun _ k => XS.iinc X32.here hx rfl (hb hby d7_214) rfl (l' := #[.val (.ref a0), .val (.ref a1), .val (.int (Int32.ofNat cnt)), .val (.ref a3), .val (.ref a4), .val (.int (1 : Int32)), .val (.int ((Int32.ofNat i) + (1 : Int32))), .val (.int (Int32.ofNat i)), .val (.long (((0 : Int64) ^^^ ((own_K R1 R2 i).toInt64)) * (-7046029254386353131 : Int64))), .second, .val (.int (Int32.ofNat rR))]) rfl k) ?_
              show OGo p e below _ (T32.setTop (mkF m 217 #[.val (.ref a0), .val (.ref a1), .val (.int (Int32.ofNat cnt)), .val (.ref a3), .val (.ref a4), .val (.int (1 : Int32)), .val (.int ((Int32.ofNat i) + (1 : Int32))), .val (.int (Int32.ofNat i)), .val (.long (((0 : Int64) ^^^ ((own_K R1 R2 i).toInt64)) * (-7046029254386353131 : Int64))), .second, .val (.int (Int32.ofNat rR))] []))
              refine OGo.by (fun _ k => XS.goto X32.here hx rfl (pc0 := 217) (pc' := 49) rfl (hb hby d7_217) (by decide) (by decide) k) ?_
              show OGo p e below _ (T32.setTop (mkF m 49 #[.val (.ref a0), .val (.ref a1), .val (.int (Int32.ofNat cnt)), .val (.ref a3), .val (.ref a4), .val (.int (1 : Int32)), .val (.int ((Int32.ofNat i) + (1 : Int32))), .val (.int (Int32.ofNat i)), .val (.long (((0 : Int64) ^^^ ((own_K R1 R2 i).toInt64)) * (-7046029254386353131 : Int64))), .second, .val (.int (Int32.ofNat rR))] []))
              have f33 : Exa Z h32 a0 "com/example/faces_into_crowds/facesintocrowds/Buckets" := ((((fE.wr W18).wr W20).wr W28).wr W32)
              have f34 : Fld Z h32 a0 "com/example/faces_into_crowds/facesintocrowds/Buckets" "mFirst" "[I" (.ref zf) := (f29.other W32 (Or.inl ne_a0_zf))
              have f35 : Fld Z h32 a0 "com/example/faces_into_crowds/facesintocrowds/Buckets" "mSlots" "[I" (.ref zs) := ((((fS.other W18 (Or.inr (slot_ne (Or.inr (hw _ (List.mem_of_getElem? (i := 36) rfl))) (Or.inl (hw _ (List.mem_of_getElem? (i := 45) rfl))) (by decide) (t := (.array .int)) (t' := .int) (by decide) (by decide)))).other W20 (Or.inl ne_a0_zs)).other W28 (Or.inl ne_a0_zn)).other W32 (Or.inl ne_a0_zf))
              have f36 : Fld Z h32 a0 "com/example/faces_into_crowds/facesintocrowds/Buckets" "mNext" "[I" (.ref zn) := ((f21.other W28 (Or.inl ne_a0_zn)).other W32 (Or.inl ne_a0_zf))
              have f37 : Fld Z h32 a0 "com/example/faces_into_crowds/facesintocrowds/Buckets" "mShift" "I" (.int sh) := ((((fH.other W18 (Or.inr (slot_ne (Or.inr (hw _ (List.mem_of_getElem? (i := 38) rfl))) (Or.inl (hw _ (List.mem_of_getElem? (i := 45) rfl))) (by decide) (t := .int) (t' := .int) (by decide) (by decide)))).other W20 (Or.inl ne_a0_zs)).other W28 (Or.inl ne_a0_zn)).other W32 (Or.inl ne_a0_zf))
              have f38 : Fld Z h32 a0 "com/example/faces_into_crowds/facesintocrowds/Buckets" "mBuckets" "I" (.int (Int32.ofNat (nc + 1))) := (((Fw18.other W20 (Or.inl ne_a0_zs)).other W28 (Or.inl ne_a0_zn)).other W32 (Or.inl ne_a0_zf))
              have f39 : Fld Z h32 a0 "com/example/faces_into_crowds/facesintocrowds/Buckets" "mUnits" "[I" (.ref a1) := ((((fU.other W18 (Or.inr (slot_ne (Or.inl (hw _ (List.mem_of_getElem? (i := 47) rfl))) (Or.inl (hw _ (List.mem_of_getElem? (i := 45) rfl))) (by decide) (t := (.array .int)) (t' := .int) (by decide) (by decide)))).other W20 (Or.inl ne_a0_zs)).other W28 (Or.inl ne_a0_zn)).other W32 (Or.inl ne_a0_zf))
              have f40 : Arv Z h32 a1 ku .int (4 : Int32) (own_U.map Value.int) (.int (0 : Int32)) := ((((fu.other W18 (Ne.symm ne_a0_a1)).other W20 (Ne.symm ne_zs_a1)).other W28 (Ne.symm ne_zn_a1)).other W32 (Ne.symm ne_zf_a1))
              have f41 : Arv Z h32 a3 kv .int (4 : Int32) (R1.map Value.int) (.int (0 : Int32)) := ((((fv.other W18 (Ne.symm ne_a0_a3)).other W20 (Ne.symm ne_zs_a3)).other W28 (Ne.symm ne_zn_a3)).other W32 (Ne.symm ne_zf_a3))
              have f42 : Arv Z h32 zr kr .int (4 : Int32) (R2.map Value.int) (.int (0 : Int32)) := ((((fr_.other W18 (Ne.symm ne_a0_zr)).other W20 (Ne.symm ne_zs_zr)).other W28 (Ne.symm ne_zn_zr)).other W32 (Ne.symm ne_zf_zr))
              have f43 : Arv Z h32 a4 kn (.array .int) (1 : Int32) [(.ref zr)] .null := ((((fn_.other W18 (Ne.symm ne_a0_a4)).other W20 (Ne.symm ne_zs_a4)).other W28 (Ne.symm ne_zn_a4)).other W32 (Ne.symm ne_zf_a4))
              have f44 : Arv Z h32 zs ks .int cpI ((lT.set ((Int32.ofNat nc)).toNatClampNeg (Int32.ofNat rR)).map Value.int) (.int (0 : Int32)) := ((V20.other W28 ne_zs_zn).other W32 (Ne.symm ne_zf_zs))
              have f45 : Arv Z h32 zn kx .int cpI ((lY.set ((Int32.ofNat i)).toNatClampNeg (gg.getD rR 0)).map Value.int) (.int (0 : Int32)) := (V28.other W32 (Ne.symm ne_zf_zn))
              rw [own_up1 i]
              exact ih (i + 1) (by omega) _ _ _ (gg.set ((Int32.ofNat rR)).toNatClampNeg (Int32.ofNat i)) (lT.set ((Int32.ofNat nc)).toNatClampNeg (Int32.ofNat rR)) (lY.set ((Int32.ofNat i)).toNatClampNeg (gg.getD rR 0)) (nc + 1) _ _ _ _ (Or.inr ⟨_, _, _, rfl, rfl, rfl, rfl⟩) (by rw [own_tn (by omega), own_tn (by omega)]; exact STEP.1 hc170_15) (by rw [List.length_set]; exact hX) X32 e32 N32 K32 f33 f34 f35 f36 f37 f38 f39 f40 f41 f42 f43 V32 f44 f45
            · refine OGo.by (fun _ k => XS.ifYes X13.here hx rfl (pc0 := 170) (pc' := 191) rfl (hb hby d7_170) rfl ((if0 _ _).trans (flt hc170_15).2.1) (by decide) (by decide) k) ?_
              show OGo p e below _ (T13.setTop (mkF m 191 #[.val (.ref a0), .val (.ref a1), .val (.int (Int32.ofNat cnt)), .val (.ref a3), .val (.ref a4), .val (.int (1 : Int32)), .val (.int (Int32.ofNat i)), .val (.int (Int32.ofNat i)), .val (.long (((0 : Int64) ^^^ ((own_K R1 R2 i).toInt64)) * (-7046029254386353131 : Int64))), .second, .val (.int (Int32.ofNat rR))] []))
              refine OGo.by (fun _ k => XS.aloadN X13.here hx rfl (hb hby d7_191) rfl rfl k) ?_
              show OGo p e below _ (T13.setTop (mkF m 192 #[.val (.ref a0), .val (.ref a1), .val (.int (Int32.ofNat cnt)), .val (.ref a3), .val (.ref a4), .val (.int (1 : Int32)), .val (.int (Int32.ofNat i)), .val (.int (Int32.ofNat i)), .val (.long (((0 : Int64) ^^^ ((own_K R1 R2 i).toInt64)) * (-7046029254386353131 : Int64))), .second, .val (.int (Int32.ofNat rR))] [(.ref a0)]))
              obtain ⟨T46, X46, e46, st46⟩ := getF X13 hx hZ hown (host := "") (Or.inl (hw _ (List.mem_of_getElem? (i := 33) rfl))) Via.refl e13 fN (g := (mkF m 192 #[.val (.ref a0), .val (.ref a1), .val (.int (Int32.ofNat cnt)), .val (.ref a3), .val (.ref a4), .val (.int (1 : Int32)), .val (.int (Int32.ofNat i)), .val (.int (Int32.ofNat i)), .val (.long (((0 : Int64) ^^^ ((own_K R1 R2 i).toInt64)) * (-7046029254386353131 : Int64))), .second, .val (.int (Int32.ofNat rR))] [(.ref a0)])) rfl rfl (hb hby d7_192)
              refine OGo.by st46 ?_
              show OGo p e below _ (T46.setTop (mkF m 195 #[.val (.ref a0), .val (.ref a1), .val (.int (Int32.ofNat cnt)), .val (.ref a3), .val (.ref a4), .val (.int (1 : Int32)), .val (.int (Int32.ofNat i)), .val (.int (Int32.ofNat i)), .val (.long (((0 : Int64) ^^^ ((own_K R1 R2 i).toInt64)) * (-7046029254386353131 : Int64))), .second, .val (.int (Int32.ofNat rR))] [(.ref zn)]))
              refine OGo.by (fun _ k => XS.iload X46.here hx rfl (hb hby d7_195) rfl k) ?_
              show OGo p e below _ (T46.setTop (mkF m 197 #[.val (.ref a0), .val (.ref a1), .val (.int (Int32.ofNat cnt)), .val (.ref a3), .val (.ref a4), .val (.int (1 : Int32)), .val (.int (Int32.ofNat i)), .val (.int (Int32.ofNat i)), .val (.long (((0 : Int64) ^^^ ((own_K R1 R2 i).toInt64)) * (-7046029254386353131 : Int64))), .second, .val (.int (Int32.ofNat rR))] [(.int (Int32.ofNat i)), (.ref zn)]))
              refine OGo.by (fun _ k => XS.aloadN X46.here hx rfl (hb hby d7_197) rfl rfl k) ?_
              show OGo p e below _ (T46.setTop (mkF m 198 #[.val (.ref a0), .val (.ref a1), .val (.int (Int32.ofNat cnt)), .val (.ref a3), .val (.ref a4), .val (.int (1 : Int32)), .val (.int (Int32.ofNat i)), .val (.int (Int32.ofNat i)), .val (.long (((0 : Int64) ^^^ ((own_K R1 R2 i).toInt64)) * (-7046029254386353131 : Int64))), .second, .val (.int (Int32.ofNat rR))] [(.ref a0), (.int (Int32.ofNat i)), (.ref zn)]))
              obtain ⟨T47, X47, e47, st47⟩ := getF X46 hx hZ hown (host := "") (Or.inl (hw _ (List.mem_of_getElem? (i := 27) rfl))) Via.refl e46 fF (g := (mkF m 198 #[.val (.ref a0), .val (.ref a1), .val (.int (Int32.ofNat cnt)), .val (.ref a3), .val (.ref a4), .val (.int (1 : Int32)), .val (.int (Int32.ofNat i)), .val (.int (Int32.ofNat i)), .val (.long (((0 : Int64) ^^^ ((own_K R1 R2 i).toInt64)) * (-7046029254386353131 : Int64))), .second, .val (.int (Int32.ofNat rR))] [(.ref a0), (.int (Int32.ofNat i)), (.ref zn)])) rfl rfl (hb hby d7_198)
              refine OGo.by st47 ?_
              show OGo p e below _ (T47.setTop (mkF m 201 #[.val (.ref a0), .val (.ref a1), .val (.int (Int32.ofNat cnt)), .val (.ref a3), .val (.ref a4), .val (.int (1 : Int32)), .val (.int (Int32.ofNat i)), .val (.int (Int32.ofNat i)), .val (.long (((0 : Int64) ^^^ ((own_K R1 R2 i).toInt64)) * (-7046029254386353131 : Int64))), .second, .val (.int (Int32.ofNat rR))] [(.ref zf), (.int (Int32.ofNat i)), (.ref zn)]))
              refine OGo.by (fun _ k => XS.iload X47.here hx rfl (hb hby d7_201) rfl k) ?_
              show OGo p e below _ (T47.setTop (mkF m 203 #[.val (.ref a0), .val (.ref a1), .val (.int (Int32.ofNat cnt)), .val (.ref a3), .val (.ref a4), .val (.int (1 : Int32)), .val (.int (Int32.ofNat i)), .val (.int (Int32.ofNat i)), .val (.long (((0 : Int64) ^^^ ((own_K R1 R2 i).toInt64)) * (-7046029254386353131 : Int64))), .second, .val (.int (Int32.ofNat rR))] [(.int (Int32.ofNat rR)), (.ref zf), (.int (Int32.ofNat i)), (.ref zn)]))
              obtain ⟨cl48, Ar48, q48, S48, M48, Hs48, G48⟩ := id fG
              have hin48 := inb_of (j := (Int32.ofNat rR)) S48 (own_inM hcf hRM)
              refine OGo.by (X47.iaload hx (j := (Int32.ofNat rR)) (v := (.int (gg.getD ((Int32.ofNat rR)).toNatClampNeg 0))) (by rw [e47]; exact Ar48.1) (State.isArrayOf_alike hZ.alike Ar48.2.1) Ar48.2.2 hin48 (Has.at Hs48 hin48 (own_getD _ _)) (g := (mkF m 203 #[.val (.ref a0), .val (.ref a1), .val (.int (Int32.ofNat cnt)), .val (.ref a3), .val (.ref a4), .val (.int (1 : Int32)), .val (.int (Int32.ofNat i)), .val (.int (Int32.ofNat i)), .val (.long (((0 : Int64) ^^^ ((own_K R1 R2 i).toInt64)) * (-7046029254386353131 : Int64))), .second, .val (.int (Int32.ofNat rR))] [(.int (Int32.ofNat rR)), (.ref zf), (.int (Int32.ofNat i)), (.ref zn)])) rfl rfl (hb hby d7_203)) ?_
              rw [own_tn (by omega)]
              show OGo p e below _ (T47.setTop (mkF m 204 #[.val (.ref a0), .val (.ref a1), .val (.int (Int32.ofNat cnt)), .val (.ref a3), .val (.ref a4), .val (.int (1 : Int32)), .val (.int (Int32.ofNat i)), .val (.int (Int32.ofNat i)), .val (.long (((0 : Int64) ^^^ ((own_K R1 R2 i).toInt64)) * (-7046029254386353131 : Int64))), .second, .val (.int (Int32.ofNat rR))] [(.int (gg.getD rR 0)), (.int (Int32.ofNat i)), (.ref zn)]))
              obtain ⟨cl49, Ar49, q49, S49, M49, Hs49, G49⟩ := id fX
              obtain ⟨T49, h49, X49, e49, W49, st49⟩ := stI X47 hx hZ e47 Ar49 (j := (Int32.ofNat i)) (inb_of S49 (own_inC hcf (by omega))) (g := (mkF m 204 #[.val (.ref a0), .val (.ref a1), .val (.int (Int32.ofNat cnt)), .val (.ref a3), .val (.ref a4), .val (.int (1 : Int32)), .val (.int (Int32.ofNat i)), .val (.int (Int32.ofNat i)), .val (.long (((0 : Int64) ^^^ ((own_K R1 R2 i).toInt64)) * (-7046029254386353131 : Int64))), .second, .val (.int (Int32.ofNat rR))] [(.int (gg.getD rR 0)), (.int (Int32.ofNat i)), (.ref zn)])) rfl rfl (hb hby d7_204)
              refine OGo.by st49 ?_
              have N49 := Fr.snoc X49 Nc g_zn
              have K49 : Keep h0 h49 [a0, zf, zs, zn] := (KK).wr W49 (Or.inl (List.mem_of_getElem? (i := 3) rfl))
              have V49 : Arv Z h49 zn kx .int cpI ((lY.set ((Int32.ofNat i)).toNatClampNeg (gg.getD rR 0)).map Value.int) (.int (0 : Int32)) := by rw [List.map_set]; exact Arv.set Ar49 q49 S49 M49 Hs49 G49 rfl W49 _ rfl (by rw [List.length_map]; exact (by have := own_tn (i := i) (by omega); omega))
              show OGo p e below _ (T49.setTop (mkF m 205 #[.val (.ref a0), .val (.ref a1), .val (.int (Int32.ofNat cnt)), .val (.ref a3), .val (.ref a4), .val (.int (1 : Int32)), .val (.int (Int32.ofNat i)), .val (.int (Int32.ofNat i)), .val (.long (((0 : Int64) ^^^ ((own_K R1 R2 i).toInt64)) * (-7046029254386353131 : Int64))), .second, .val (.int (Int32.ofNat rR))] []))
              refine OGo.by (fun _ k => XS.aloadN X49.here hx rfl (hb hby d7_205) rfl rfl k) ?_
              show OGo p e below _ (T49.setTop (mkF m 206 #[.val (.ref a0), .val (.ref a1), .val (.int (Int32.ofNat cnt)), .val (.ref a3), .val (.ref a4), .val (.int (1 : Int32)), .val (.int (Int32.ofNat i)), .val (.int (Int32.ofNat i)), .val (.long (((0 : Int64) ^^^ ((own_K R1 R2 i).toInt64)) * (-7046029254386353131 : Int64))), .second, .val (.int (Int32.ofNat rR))] [(.ref a0)]))
              have f50 : Fld Z h49 a0 "com/example/faces_into_crowds/facesintocrowds/Buckets" "mFirst" "[I" (.ref zf) := (fF.other W49 (Or.inl ne_a0_zn))
              obtain ⟨T51, X51, e51, st51⟩ := getF X49 hx hZ hown (host := "") (Or.inl (hw _ (List.mem_of_getElem? (i := 27) rfl))) Via.refl e49 f50 (g := (mkF m 206 #[.val (.ref a0), .val (.ref a1), .val (.int (Int32.ofNat cnt)), .val (.ref a3), .val (.ref a4), .val (.int (1 : Int32)), .val (.int (Int32.ofNat i)), .val (.int (Int32.ofNat i)), .val (.long (((0 : Int64) ^^^ ((own_K R1 R2 i).toInt64)) * (-7046029254386353131 : Int64))), .second, .val (.int (Int32.ofNat rR))] [(.ref a0)])) rfl rfl (hb hby d7_206)
              refine OGo.by st51 ?_
              show OGo p e below _ (T51.setTop (mkF m 209 #[.val (.ref a0), .val (.ref a1), .val (.int (Int32.ofNat cnt)), .val (.ref a3), .val (.ref a4), .val (.int (1 : Int32)), .val (.int (Int32.ofNat i)), .val (.int (Int32.ofNat i)), .val (.long (((0 : Int64) ^^^ ((own_K R1 R2 i).toInt64)) * (-7046029254386353131 : Int64))), .second, .val (.int (Int32.ofNat rR))] [(.ref zf)]))
              refine OGo.by (fun _ k => XS.iload X51.here hx rfl (hb hby d7_209) rfl k) ?_
              show OGo p e below _ (T51.setTop (mkF m 211 #[.val (.ref a0), .val (.ref a1), .val (.int (Int32.ofNat cnt)), .val (.ref a3), .val (.ref a4), .val (.int (1 : Int32)), .val (.int (Int32.ofNat i)), .val (.int (Int32.ofNat i)), .val (.long (((0 : Int64) ^^^ ((own_K R1 R2 i).toInt64)) * (-7046029254386353131 : Int64))), .second, .val (.int (Int32.ofNat rR))] [(.int (Int32.ofNat rR)), (.ref zf)]))
              refine OGo.by (fun _ k => XS.iload X51.here hx rfl (hb hby d7_211) rfl k) ?_
              show OGo p e below _ (T51.setTop (mkF m 213 #[.val (.ref a0), .val (.ref a1), .val (.int (Int32.ofNat cnt)), .val (.ref a3), .val (.ref a4), .val (.int (1 : Int32)), .val (.int (Int32.ofNat i)), .val (.int (Int32.ofNat i)), .val (.long (((0 : Int64) ^^^ ((own_K R1 R2 i).toInt64)) * (-7046029254386353131 : Int64))), .second, .val (.int (Int32.ofNat rR))] [(.int (Int32.ofNat i)), (.int (Int32.ofNat rR)), (.ref zf)]))
              have f52 : Arv Z h49 zf kf .int ml (gg.map Value.int) (.int (0 : Int32)) := (fG.other W49 ne_zf_zn)
              obtain ⟨cl53, Ar53, q53, S53, M53, Hs53, G53⟩ := id f52
              obtain ⟨T53, h53, X53, e53, W53, st53⟩ := stI X51 hx hZ e51 Ar53 (j := (Int32.ofNat rR)) (inb_of S53 (own_inM hcf hRM)) (g := (mkF m 213 #[.val (.ref a0), .val (.ref a1), .val (.int (Int32.ofNat cnt)), .val (.ref a3), .val (.ref a4), .val (.int (1 : Int32)), .val (.int (Int32.ofNat i)), .val (.int (Int32.ofNat i)), .val (.long (((0 : Int64) ^^^ ((own_K R1 R2 i).toInt64)) * (-7046029254386353131 : Int64))), .second, .val (.int (Int32.ofNat rR))] [(.int (Int32.ofNat i)), (.int (Int32.ofNat rR)), (.ref zf)])) rfl rfl (hb hby d7_213)
              refine OGo.by st53 ?_
              have N53 := Fr.snoc X53 N49 g_zf
              have K53 : Keep h0 h53 [a0, zf, zs, zn] := (K49).wr W53 (Or.inl (List.mem_of_getElem? (i := 1) rfl))
              have V53 : Arv Z h53 zf kf .int ml ((gg.set ((Int32.ofNat rR)).toNatClampNeg (Int32.ofNat i)).map Value.int) (.int (0 : Int32)) := by rw [List.map_set]; exact Arv.set Ar53 q53 S53 M53 Hs53 G53 rfl W53 _ rfl (by rw [List.length_map]; exact (by have := own_tn (i := rR) (by omega); have := hI.1; omega))
              show OGo p e below _ (T53.setTop (mkF m 214 #[.val (.ref a0), .val (.ref a1), .val (.int (Int32.ofNat cnt)), .val (.ref a3), .val (.ref a4), .val (.int (1 : Int32)), .val (.int (Int32.ofNat i)), .val (.int (Int32.ofNat i)), .val (.long (((0 : Int64) ^^^ ((own_K R1 R2 i).toInt64)) * (-7046029254386353131 : Int64))), .second, .val (.int (Int32.ofNat rR))] []))
              refine OGo.by (fun _ k => XS.iinc X53.here hx rfl (hb hby d7_214) rfl (l' := #[.val (.ref a0), .val (.ref a1), .val (.int (Int32.ofNat cnt)), .val (.ref a3), .val (.ref a4), .val (.int (1 : Int32)), .val (.int ((Int32.ofNat i) + (1 : Int32))), .val (.int (Int32.ofNat i)), .val (.long (((0 : Int64) ^^^ ((own_K R1 R2 i).toInt64)) * (-7046029254386353131 : Int64))), .second, .val (.int (Int32.ofNat rR))]) rfl k) ?_
              show OGo p e below _ (T53.setTop (mkF m 217 #[.val (.ref a0), .val (.ref a1), .val (.int (Int32.ofNat cnt)), .val (.ref a3), .val (.ref a4), .val (.int (1 : Int32)), .val (.int ((Int32.ofNat i) + (1 : Int32))), .val (.int (Int32.ofNat i)), .val (.long (((0 : Int64) ^^^ ((own_K R1 R2 i).toInt64)) * (-7046029254386353131 : Int64))), .second, .val (.int (Int32.ofNat rR))] []))
              refine OGo.by (fun _ k => XS.goto X53.here hx rfl (pc0 := 217) (pc' := 49) rfl (hb hby d7_217) (by decide) (by decide) k) ?_
              show OGo p e below _ (T53.setTop (mkF m 49 #[.val (.ref a0), .val (.ref a1), .val (.int (Int32.ofNat cnt)), .val (.ref a3), .val (.ref a4), .val (.int (1 : Int32)), .val (.int ((Int32.ofNat i) + (1 : Int32))), .val (.int (Int32.ofNat i)), .val (.long (((0 : Int64) ^^^ ((own_K R1 R2 i).toInt64)) * (-7046029254386353131 : Int64))), .second, .val (.int (Int32.ofNat rR))] []))
              have f54 : Exa Z h53 a0 "com/example/faces_into_crowds/facesintocrowds/Buckets" := ((fE.wr W49).wr W53)
              have f55 : Fld Z h53 a0 "com/example/faces_into_crowds/facesintocrowds/Buckets" "mFirst" "[I" (.ref zf) := (f50.other W53 (Or.inl ne_a0_zf))
              have f56 : Fld Z h53 a0 "com/example/faces_into_crowds/facesintocrowds/Buckets" "mSlots" "[I" (.ref zs) := ((fS.other W49 (Or.inl ne_a0_zn)).other W53 (Or.inl ne_a0_zf))
              have f57 : Fld Z h53 a0 "com/example/faces_into_crowds/facesintocrowds/Buckets" "mNext" "[I" (.ref zn) := ((fN.other W49 (Or.inl ne_a0_zn)).other W53 (Or.inl ne_a0_zf))
              have f58 : Fld Z h53 a0 "com/example/faces_into_crowds/facesintocrowds/Buckets" "mShift" "I" (.int sh) := ((fH.other W49 (Or.inl ne_a0_zn)).other W53 (Or.inl ne_a0_zf))
              have f59 : Fld Z h53 a0 "com/example/faces_into_crowds/facesintocrowds/Buckets" "mBuckets" "I" (.int (Int32.ofNat nc)) := ((fB.other W49 (Or.inl ne_a0_zn)).other W53 (Or.inl ne_a0_zf))
              have f60 : Fld Z h53 a0 "com/example/faces_into_crowds/facesintocrowds/Buckets" "mUnits" "[I" (.ref a1) := ((fU.other W49 (Or.inl ne_a0_zn)).other W53 (Or.inl ne_a0_zf))
              have f61 : Arv Z h53 a1 ku .int (4 : Int32) (own_U.map Value.int) (.int (0 : Int32)) := ((fu.other W49 (Ne.symm ne_zn_a1)).other W53 (Ne.symm ne_zf_a1))
              have f62 : Arv Z h53 a3 kv .int (4 : Int32) (R1.map Value.int) (.int (0 : Int32)) := ((fv.other W49 (Ne.symm ne_zn_a3)).other W53 (Ne.symm ne_zf_a3))
              have f63 : Arv Z h53 zr kr .int (4 : Int32) (R2.map Value.int) (.int (0 : Int32)) := ((fr_.other W49 (Ne.symm ne_zn_zr)).other W53 (Ne.symm ne_zf_zr))
              have f64 : Arv Z h53 a4 kn (.array .int) (1 : Int32) [(.ref zr)] .null := ((fn_.other W49 (Ne.symm ne_zn_a4)).other W53 (Ne.symm ne_zf_a4))
              have f65 : Arv Z h53 zs ks .int cpI (lT.map Value.int) (.int (0 : Int32)) := ((fT.other W49 ne_zs_zn).other W53 (Ne.symm ne_zf_zs))
              have f66 : Arv Z h53 zn kx .int cpI ((lY.set ((Int32.ofNat i)).toNatClampNeg (gg.getD rR 0)).map Value.int) (.int (0 : Int32)) := (V49.other W53 (Ne.symm ne_zf_zn))
              rw [own_up1 i]
              exact ih (i + 1) (by omega) _ _ _ (gg.set ((Int32.ofNat rR)).toNatClampNeg (Int32.ofNat i)) lT (lY.set ((Int32.ofNat i)).toNatClampNeg (gg.getD rR 0)) nc _ _ _ _ (Or.inr ⟨_, _, _, rfl, rfl, rfl, rfl⟩) (by rw [own_tn (by omega)]; exact STEP.2 hc170_15) (by rw [List.length_set]; exact hX) X53 e53 N53 K53 f54 f55 f56 f57 f58 f59 f60 f61 f62 f63 f64 V53 f65 f66
          have JC : ∀ (nC jj : Nat), own_fin gg (own_K R1 R2) (own_K R1 R2 i) mm nC jj → jj < mm → own_pr gg (own_K R1 R2) (own_K R1 R2 i) mm nC jj = rR → ∀ (Tc : State) (lc : List Loc), Stand p l e ({ frames := 1, cells := 0, slots := 0, locals := 18 } : Room) s m #[(.ref a0), (.ref a1), (.int (Int32.ofNat cnt)), (.ref a3), (.ref a4)] below meth c Tc lc 0 0 → Tc.heap = hh → Fr n0 lc → OGo p e below (fun U' o => ∃ v L, o = .returned v ∧ Q_rm_so Z a0 a1 a3 a4 cnt mm cc nb ml sh cpI wu zf zs zn zr ku kv kr kn kf ks kx R1 R2 lF lS lX h0 n0 v U'.heap L ∧ FrameEnd s o U' L (({ frames := 1, cells := 0, slots := 0, locals := 18 } : Room)).cells (({ frames := 1, cells := 0, slots := 0, locals := 18 } : Room)).slots) (Tc.setTop (mkF m 116 #[.val (.ref a0), .val (.ref a1), .val (.int (Int32.ofNat cnt)), .val (.ref a3), .val (.ref a4), .val (.int (1 : Int32)), .val (.int (Int32.ofNat i)), .val (.int (Int32.ofNat i)), .val (.long (((0 : Int64) ^^^ ((own_K R1 R2 i).toInt64)) * (-7046029254386353131 : Int64))), .second, .val (.int (Int32.ofNat jj))] [])) := by
            intro nC
            induction nC with
            | zero =>
              intro jj hf hjj hp Tc lc Xc eC Nc
              by_cases hst : own_stop gg (own_K R1 R2) (own_K R1 R2 i) jj
              · have ejj : jj = rR := (own_pr_stop hst).symm.trans hp
                show OGo p e below _ (Tc.setTop (mkF m 116 #[.val (.ref a0), .val (.ref a1), .val (.int (Int32.ofNat cnt)), .val (.ref a3), .val (.ref a4), .val (.int (1 : Int32)), .val (.int (Int32.ofNat i)), .val (.int (Int32.ofNat i)), .val (.long (((0 : Int64) ^^^ ((own_K R1 R2 i).toInt64)) * (-7046029254386353131 : Int64))), .second, .val (.int (Int32.ofNat jj))] []))
                refine OGo.by (fun _ k => XS.aloadN Xc.here hx rfl (hb hby d7_116) rfl rfl k) ?_
                show OGo p e below _ (Tc.setTop (mkF m 117 #[.val (.ref a0), .val (.ref a1), .val (.int (Int32.ofNat cnt)), .val (.ref a3), .val (.ref a4), .val (.int (1 : Int32)), .val (.int (Int32.ofNat i)), .val (.int (Int32.ofNat i)), .val (.long (((0 : Int64) ^^^ ((own_K R1 R2 i).toInt64)) * (-7046029254386353131 : Int64))), .second, .val (.int (Int32.ofNat jj))] [(.ref a0)]))
                obtain ⟨T67, X67, e67, st67⟩ := getF Xc hx hZ hown (host := "") (Or.inl (hw _ (List.mem_of_getElem? (i := 27) rfl))) Via.refl eC fF (g := (mkF m 117 #[.val (.ref a0), .val (.ref a1), .val (.int (Int32.ofNat cnt)), .val (.ref a3), .val (.ref a4), .val (.int (1 : Int32)), .val (.int (Int32.ofNat i)), .val (.int (Int32.ofNat i)), .val (.long (((0 : Int64) ^^^ ((own_K R1 R2 i).toInt64)) * (-7046029254386353131 : Int64))), .second, .val (.int (Int32.ofNat jj))] [(.ref a0)])) rfl rfl (hb hby d7_117)
                refine OGo.by st67 ?_
                show OGo p e below _ (T67.setTop (mkF m 120 #[.val (.ref a0), .val (.ref a1), .val (.int (Int32.ofNat cnt)), .val (.ref a3), .val (.ref a4), .val (.int (1 : Int32)), .val (.int (Int32.ofNat i)), .val (.int (Int32.ofNat i)), .val (.long (((0 : Int64) ^^^ ((own_K R1 R2 i).toInt64)) * (-7046029254386353131 : Int64))), .second, .val (.int (Int32.ofNat jj))] [(.ref zf)]))
                refine OGo.by (fun _ k => XS.iload X67.here hx rfl (hb hby d7_120) rfl k) ?_
                show OGo p e below _ (T67.setTop (mkF m 122 #[.val (.ref a0), .val (.ref a1), .val (.int (Int32.ofNat cnt)), .val (.ref a3), .val (.ref a4), .val (.int (1 : Int32)), .val (.int (Int32.ofNat i)), .val (.int (Int32.ofNat i)), .val (.long (((0 : Int64) ^^^ ((own_K R1 R2 i).toInt64)) * (-7046029254386353131 : Int64))), .second, .val (.int (Int32.ofNat jj))] [(.int (Int32.ofNat jj)), (.ref zf)]))
                obtain ⟨cl68, Ar68, q68, S68, M68, Hs68, G68⟩ := id fG
                have hin68 := inb_of (j := (Int32.ofNat jj)) S68 (own_inM hcf hjj)
                refine OGo.by (X67.iaload hx (j := (Int32.ofNat jj)) (v := (.int (gg.getD ((Int32.ofNat jj)).toNatClampNeg 0))) (by rw [e67]; exact Ar68.1) (State.isArrayOf_alike hZ.alike Ar68.2.1) Ar68.2.2 hin68 (Has.at Hs68 hin68 (own_getD _ _)) (g := (mkF m 122 #[.val (.ref a0), .val (.ref a1), .val (.int (Int32.ofNat cnt)), .val (.ref a3), .val (.ref a4), .val (.int (1 : Int32)), .val (.int (Int32.ofNat i)), .val (.int (Int32.ofNat i)), .val (.long (((0 : Int64) ^^^ ((own_K R1 R2 i).toInt64)) * (-7046029254386353131 : Int64))), .second, .val (.int (Int32.ofNat jj))] [(.int (Int32.ofNat jj)), (.ref zf)])) rfl rfl (hb hby d7_122)) ?_
                rw [own_tn (by omega)]
                show OGo p e below _ (T67.setTop (mkF m 123 #[.val (.ref a0), .val (.ref a1), .val (.int (Int32.ofNat cnt)), .val (.ref a3), .val (.ref a4), .val (.int (1 : Int32)), .val (.int (Int32.ofNat i)), .val (.int (Int32.ofNat i)), .val (.long (((0 : Int64) ^^^ ((own_K R1 R2 i).toInt64)) * (-7046029254386353131 : Int64))), .second, .val (.int (Int32.ofNat jj))] [(.int (gg.getD jj 0))]))
                by_cases hc123_69 : (gg.getD jj 0) < (0 : Int32)
                · refine OGo.by (fun _ k => XS.ifYes X67.here hx rfl (pc0 := 123) (pc' := 163) rfl (hb hby d7_123) rfl ((if0 _ _).trans (tlt hc123_69).1) (by decide) (by decide) k) ?_
                  show OGo p e below _ (T67.setTop (mkF m 163 #[.val (.ref a0), .val (.ref a1), .val (.int (Int32.ofNat cnt)), .val (.ref a3), .val (.ref a4), .val (.int (1 : Int32)), .val (.int (Int32.ofNat i)), .val (.int (Int32.ofNat i)), .val (.long (((0 : Int64) ^^^ ((own_K R1 R2 i).toInt64)) * (-7046029254386353131 : Int64))), .second, .val (.int (Int32.ofNat jj))] []))
                  rw [ejj]
                  exact J163 _ _ X67 e67 Nc
                · refine OGo.by (fun _ k => XS.ifNo X67.here hx rfl (hb hby d7_123) rfl ((if0 _ _).trans (flt hc123_69).1) k) ?_
                  show OGo p e below _ (T67.setTop (mkF m 126 #[.val (.ref a0), .val (.ref a1), .val (.int (Int32.ofNat cnt)), .val (.ref a3), .val (.ref a4), .val (.int (1 : Int32)), .val (.int (Int32.ofNat i)), .val (.int (Int32.ofNat i)), .val (.long (((0 : Int64) ^^^ ((own_K R1 R2 i).toInt64)) * (-7046029254386353131 : Int64))), .second, .val (.int (Int32.ofNat jj))] []))
                  obtain ⟨wj, hwj4, ewj⟩ := own_Inv_pos hI (by omega) hjj hc123_69
                  have hkw : (own_K R1 R2 i) = (own_K R1 R2 wj) := by
                    have z := hst.resolve_left hc123_69
                    rwa [ewj, own_tn (by omega)] at z
                  refine OGo.by (fun _ k => XS.iload X67.here hx rfl (hb hby d7_126) rfl k) ?_
                  show OGo p e below _ (T67.setTop (mkF m 128 #[.val (.ref a0), .val (.ref a1), .val (.int (Int32.ofNat cnt)), .val (.ref a3), .val (.ref a4), .val (.int (1 : Int32)), .val (.int (Int32.ofNat i)), .val (.int (Int32.ofNat i)), .val (.long (((0 : Int64) ^^^ ((own_K R1 R2 i).toInt64)) * (-7046029254386353131 : Int64))), .second, .val (.int (Int32.ofNat jj))] [(.int (Int32.ofNat i))]))
                  refine OGo.by (fun _ k => XS.aloadN X67.here hx rfl (hb hby d7_128) rfl rfl k) ?_
                  show OGo p e below _ (T67.setTop (mkF m 129 #[.val (.ref a0), .val (.ref a1), .val (.int (Int32.ofNat cnt)), .val (.ref a3), .val (.ref a4), .val (.int (1 : Int32)), .val (.int (Int32.ofNat i)), .val (.int (Int32.ofNat i)), .val (.long (((0 : Int64) ^^^ ((own_K R1 R2 i).toInt64)) * (-7046029254386353131 : Int64))), .second, .val (.int (Int32.ofNat jj))] [(.ref a1), (.int (Int32.ofNat i))]))
                  refine OGo.by (fun _ k => XS.aloadN X67.here hx rfl (hb hby d7_129) rfl rfl k) ?_
                  show OGo p e below _ (T67.setTop (mkF m 130 #[.val (.ref a0), .val (.ref a1), .val (.int (Int32.ofNat cnt)), .val (.ref a3), .val (.ref a4), .val (.int (1 : Int32)), .val (.int (Int32.ofNat i)), .val (.int (Int32.ofNat i)), .val (.long (((0 : Int64) ^^^ ((own_K R1 R2 i).toInt64)) * (-7046029254386353131 : Int64))), .second, .val (.int (Int32.ofNat jj))] [(.ref a0), (.ref a1), (.int (Int32.ofNat i))]))
                  obtain ⟨T70, X70, e70, st70⟩ := getF X67 hx hZ hown (host := "") (Or.inl (hw _ (List.mem_of_getElem? (i := 27) rfl))) Via.refl e67 fF (g := (mkF m 130 #[.val (.ref a0), .val (.ref a1), .val (.int (Int32.ofNat cnt)), .val (.ref a3), .val (.ref a4), .val (.int (1 : Int32)), .val (.int (Int32.ofNat i)), .val (.int (Int32.ofNat i)), .val (.long (((0 : Int64) ^^^ ((own_K R1 R2 i).toInt64)) * (-7046029254386353131 : Int64))), .second, .val (.int (Int32.ofNat jj))] [(.ref a0), (.ref a1), (.int (Int32.ofNat i))])) rfl rfl (hb hby d7_130)
                  refine OGo.by st70 ?_
                  show OGo p e below _ (T70.setTop (mkF m 133 #[.val (.ref a0), .val (.ref a1), .val (.int (Int32.ofNat cnt)), .val (.ref a3), .val (.ref a4), .val (.int (1 : Int32)), .val (.int (Int32.ofNat i)), .val (.int (Int32.ofNat i)), .val (.long (((0 : Int64) ^^^ ((own_K R1 R2 i).toInt64)) * (-7046029254386353131 : Int64))), .second, .val (.int (Int32.ofNat jj))] [(.ref zf), (.ref a1), (.int (Int32.ofNat i))]))
                  refine OGo.by (fun _ k => XS.iload X70.here hx rfl (hb hby d7_133) rfl k) ?_
                  show OGo p e below _ (T70.setTop (mkF m 135 #[.val (.ref a0), .val (.ref a1), .val (.int (Int32.ofNat cnt)), .val (.ref a3), .val (.ref a4), .val (.int (1 : Int32)), .val (.int (Int32.ofNat i)), .val (.int (Int32.ofNat i)), .val (.long (((0 : Int64) ^^^ ((own_K R1 R2 i).toInt64)) * (-7046029254386353131 : Int64))), .second, .val (.int (Int32.ofNat jj))] [(.int (Int32.ofNat jj)), (.ref zf), (.ref a1), (.int (Int32.ofNat i))]))
                  obtain ⟨cl71, Ar71, q71, S71, M71, Hs71, G71⟩ := id fG
                  have hin71 := inb_of (j := (Int32.ofNat jj)) S71 (own_inM hcf hjj)
                  refine OGo.by (X70.iaload hx (j := (Int32.ofNat jj)) (v := (.int (gg.getD ((Int32.ofNat jj)).toNatClampNeg 0))) (by rw [e70]; exact Ar71.1) (State.isArrayOf_alike hZ.alike Ar71.2.1) Ar71.2.2 hin71 (Has.at Hs71 hin71 (own_getD _ _)) (g := (mkF m 135 #[.val (.ref a0), .val (.ref a1), .val (.int (Int32.ofNat cnt)), .val (.ref a3), .val (.ref a4), .val (.int (1 : Int32)), .val (.int (Int32.ofNat i)), .val (.int (Int32.ofNat i)), .val (.long (((0 : Int64) ^^^ ((own_K R1 R2 i).toInt64)) * (-7046029254386353131 : Int64))), .second, .val (.int (Int32.ofNat jj))] [(.int (Int32.ofNat jj)), (.ref zf), (.ref a1), (.int (Int32.ofNat i))])) rfl rfl (hb hby d7_135)) ?_
                  rw [own_tn (by omega)]
                  rw [ewj]
                  show OGo p e below _ (T70.setTop (mkF m 136 #[.val (.ref a0), .val (.ref a1), .val (.int (Int32.ofNat cnt)), .val (.ref a3), .val (.ref a4), .val (.int (1 : Int32)), .val (.int (Int32.ofNat i)), .val (.int (Int32.ofNat i)), .val (.long (((0 : Int64) ^^^ ((own_K R1 R2 i).toInt64)) * (-7046029254386353131 : Int64))), .second, .val (.int (Int32.ofNat jj))] [(.int (Int32.ofNat wj)), (.ref a1), (.int (Int32.ofNat i))]))
                  obtain ⟨cl72, Ar72, q72, S72, M72, Hs72, G72⟩ := id fu
                  have hin72 := inb_of (j := (Int32.ofNat wj)) S72 (own_in4 hwj4)
                  refine OGo.by (X70.iaload hx (j := (Int32.ofNat wj)) (v := (.int (own_U.getD ((Int32.ofNat wj)).toNatClampNeg 0))) (by rw [e70]; exact Ar72.1) (State.isArrayOf_alike hZ.alike Ar72.2.1) Ar72.2.2 hin72 (Has.at Hs72 hin72 (own_getD _ _)) (g := (mkF m 136 #[.val (.ref a0), .val (.ref a1), .val (.int (Int32.ofNat cnt)), .val (.ref a3), .val (.ref a4), .val (.int (1 : Int32)), .val (.int (Int32.ofNat i)), .val (.int (Int32.ofNat i)), .val (.long (((0 : Int64) ^^^ ((own_K R1 R2 i).toInt64)) * (-7046029254386353131 : Int64))), .second, .val (.int (Int32.ofNat jj))] [(.int (Int32.ofNat wj)), (.ref a1), (.int (Int32.ofNat i))])) rfl rfl (hb hby d7_136)) ?_
                  rw [own_tn (by omega), own_Uat hwj4]
                  show OGo p e below _ (T70.setTop (mkF m 137 #[.val (.ref a0), .val (.ref a1), .val (.int (Int32.ofNat cnt)), .val (.ref a3), .val (.ref a4), .val (.int (1 : Int32)), .val (.int (Int32.ofNat i)), .val (.int (Int32.ofNat i)), .val (.long (((0 : Int64) ^^^ ((own_K R1 R2 i).toInt64)) * (-7046029254386353131 : Int64))), .second, .val (.int (Int32.ofNat jj))] [(.int (Int32.ofNat wj)), (.int (Int32.ofNat i))]))
                  refine OGo.by (fun _ k => XS.aloadN X70.here hx rfl (hb hby d7_137) rfl rfl k) ?_
                  show OGo p e below _ (T70.setTop (mkF m 138 #[.val (.ref a0), .val (.ref a1), .val (.int (Int32.ofNat cnt)), .val (.ref a3), .val (.ref a4), .val (.int (1 : Int32)), .val (.int (Int32.ofNat i)), .val (.int (Int32.ofNat i)), .val (.long (((0 : Int64) ^^^ ((own_K R1 R2 i).toInt64)) * (-7046029254386353131 : Int64))), .second, .val (.int (Int32.ofNat jj))] [(.ref a3), (.int (Int32.ofNat wj)), (.int (Int32.ofNat i))]))
                  refine OGo.by (fun _ k => XS.aload X70.here hx rfl (hb hby d7_138) rfl rfl k) ?_
                  show OGo p e below _ (T70.setTop (mkF m 140 #[.val (.ref a0), .val (.ref a1), .val (.int (Int32.ofNat cnt)), .val (.ref a3), .val (.ref a4), .val (.int (1 : Int32)), .val (.int (Int32.ofNat i)), .val (.int (Int32.ofNat i)), .val (.long (((0 : Int64) ^^^ ((own_K R1 R2 i).toInt64)) * (-7046029254386353131 : Int64))), .second, .val (.int (Int32.ofNat jj))] [(.ref a4), (.ref a3), (.int (Int32.ofNat wj)), (.int (Int32.ofNat i))]))
                  have H73 := Jvm.LawKit.callS X70 hx (y := (⟨"com/example/faces_into_crowds/facesintocrowds/Buckets", "alike", "(II[I[[I)Z"⟩ : MethodName)) hown (mvT hZ (hw _ (List.mem_of_getElem? (i := 58) rfl))) (mvT hZ (hw _ (List.mem_of_getElem? (i := 59) rfl))) (mvT hZ (hw _ (List.mem_of_getElem? (i := 6) rfl))) (mvT hZ (hw _ (List.mem_of_getElem? (i := 60) rfl))) (by decide) (backOf (W := 0) (rm_al l Z av0 hw [] a3 a4 i wj zr kv kr kn R1 R2 hh n0 (Nat.le_trans Z0 KK.1) fv fr_ fn_ hR1 hR2 (by omega) hwj4) hZ (hw _ (List.mem_of_getElem? (i := 60) rfl)) (hw _ (List.mem_of_getElem? (i := 6) rfl)) (by decide) (by decide)) (g := (mkF m 140 #[.val (.ref a0), .val (.ref a1), .val (.int (Int32.ofNat cnt)), .val (.ref a3), .val (.ref a4), .val (.int (1 : Int32)), .val (.int (Int32.ofNat i)), .val (.int (Int32.ofNat i)), .val (.long (((0 : Int64) ^^^ ((own_K R1 R2 i).toInt64)) * (-7046029254386353131 : Int64))), .second, .val (.int (Int32.ofNat jj))] [(.ref a4), (.ref a3), (.int (Int32.ofNat wj)), (.int (Int32.ofNat i))])) rfl (by rw [hml]; rfl) (argsL := [(.int (Int32.ofNat i)), (.int (Int32.ofNat wj)), (.ref a3), (.ref a4)]) (rest := []) (lenOf own_pd4 rfl) rfl (by show 2 * 0 + _ ≤ _; exact Nat.le_of_eq rfl) (hb hby d7_140) (fun _ _ => ⟨rfl, e70, (by decide : 0 + 0 ≤ _), (by decide : 0 + 0 ≤ _)⟩)
                  refine own_cpsP H73 (c' := 0) (s' := 0) rfl rfl Nc (r := (some (.int (own_eq (own_K R1 R2 i) (own_K R1 R2 wj))))) (h1 := hh) (fun _ _ _ q => q) ?_
                  clear H73
                  intro T73 L73 X73 N73 e73
                  show OGo p e below _ (T73.setTop (mkF m 143 #[.val (.ref a0), .val (.ref a1), .val (.int (Int32.ofNat cnt)), .val (.ref a3), .val (.ref a4), .val (.int (1 : Int32)), .val (.int (Int32.ofNat i)), .val (.int (Int32.ofNat i)), .val (.long (((0 : Int64) ^^^ ((own_K R1 R2 i).toInt64)) * (-7046029254386353131 : Int64))), .second, .val (.int (Int32.ofNat jj))] [(.int (own_eq (own_K R1 R2 i) (own_K R1 R2 wj)))]))
                  refine OGo.by (fun _ k => XS.ifYes X73.here hx rfl (pc0 := 143) (pc' := 163) rfl (hb hby d7_143) rfl ((if0 _ _).trans (feq (by rw [own_eq, if_pos hkw]; decide)).2) (by decide) (by decide) k) ?_
                  show OGo p e below _ (T73.setTop (mkF m 163 #[.val (.ref a0), .val (.ref a1), .val (.int (Int32.ofNat cnt)), .val (.ref a3), .val (.ref a4), .val (.int (1 : Int32)), .val (.int (Int32.ofNat i)), .val (.int (Int32.ofNat i)), .val (.long (((0 : Int64) ^^^ ((own_K R1 R2 i).toInt64)) * (-7046029254386353131 : Int64))), .second, .val (.int (Int32.ofNat jj))] []))
                  rw [ejj]
                  exact J163 _ _ X73 e73 N73
              · exact absurd hf hst
            | succ nC ihC =>
              intro jj hf hjj hp Tc lc Xc eC Nc
              by_cases hst : own_stop gg (own_K R1 R2) (own_K R1 R2 i) jj
              · have ejj : jj = rR := (own_pr_stop hst).symm.trans hp
                show OGo p e below _ (Tc.setTop (mkF m 116 #[.val (.ref a0), .val (.ref a1), .val (.int (Int32.ofNat cnt)), .val (.ref a3), .val (.ref a4), .val (.int (1 : Int32)), .val (.int (Int32.ofNat i)), .val (.int (Int32.ofNat i)), .val (.long (((0 : Int64) ^^^ ((own_K R1 R2 i).toInt64)) * (-7046029254386353131 : Int64))), .second, .val (.int (Int32.ofNat jj))] []))
                refine OGo.by (fun _ k => XS.aloadN Xc.here hx rfl (hb hby d7_116) rfl rfl k) ?_
                show OGo p e below _ (Tc.setTop (mkF m 117 #[.val (.ref a0), .val (.ref a1), .val (.int (Int32.ofNat cnt)), .val (.ref a3), .val (.ref a4), .val (.int (1 : Int32)), .val (.int (Int32.ofNat i)), .val (.int (Int32.ofNat i)), .val (.long (((0 : Int64) ^^^ ((own_K R1 R2 i).toInt64)) * (-7046029254386353131 : Int64))), .second, .val (.int (Int32.ofNat jj))] [(.ref a0)]))
                obtain ⟨T74, X74, e74, st74⟩ := getF Xc hx hZ hown (host := "") (Or.inl (hw _ (List.mem_of_getElem? (i := 27) rfl))) Via.refl eC fF (g := (mkF m 117 #[.val (.ref a0), .val (.ref a1), .val (.int (Int32.ofNat cnt)), .val (.ref a3), .val (.ref a4), .val (.int (1 : Int32)), .val (.int (Int32.ofNat i)), .val (.int (Int32.ofNat i)), .val (.long (((0 : Int64) ^^^ ((own_K R1 R2 i).toInt64)) * (-7046029254386353131 : Int64))), .second, .val (.int (Int32.ofNat jj))] [(.ref a0)])) rfl rfl (hb hby d7_117)
                refine OGo.by st74 ?_
                show OGo p e below _ (T74.setTop (mkF m 120 #[.val (.ref a0), .val (.ref a1), .val (.int (Int32.ofNat cnt)), .val (.ref a3), .val (.ref a4), .val (.int (1 : Int32)), .val (.int (Int32.ofNat i)), .val (.int (Int32.ofNat i)), .val (.long (((0 : Int64) ^^^ ((own_K R1 R2 i).toInt64)) * (-7046029254386353131 : Int64))), .second, .val (.int (Int32.ofNat jj))] [(.ref zf)]))
                refine OGo.by (fun _ k => XS.iload X74.here hx rfl (hb hby d7_120) rfl k) ?_
                show OGo p e below _ (T74.setTop (mkF m 122 #[.val (.ref a0), .val (.ref a1), .val (.int (Int32.ofNat cnt)), .val (.ref a3), .val (.ref a4), .val (.int (1 : Int32)), .val (.int (Int32.ofNat i)), .val (.int (Int32.ofNat i)), .val (.long (((0 : Int64) ^^^ ((own_K R1 R2 i).toInt64)) * (-7046029254386353131 : Int64))), .second, .val (.int (Int32.ofNat jj))] [(.int (Int32.ofNat jj)), (.ref zf)]))
                obtain ⟨cl75, Ar75, q75, S75, M75, Hs75, G75⟩ := id fG
                have hin75 := inb_of (j := (Int32.ofNat jj)) S75 (own_inM hcf hjj)
                refine OGo.by (X74.iaload hx (j := (Int32.ofNat jj)) (v := (.int (gg.getD ((Int32.ofNat jj)).toNatClampNeg 0))) (by rw [e74]; exact Ar75.1) (State.isArrayOf_alike hZ.alike Ar75.2.1) Ar75.2.2 hin75 (Has.at Hs75 hin75 (own_getD _ _)) (g := (mkF m 122 #[.val (.ref a0), .val (.ref a1), .val (.int (Int32.ofNat cnt)), .val (.ref a3), .val (.ref a4), .val (.int (1 : Int32)), .val (.int (Int32.ofNat i)), .val (.int (Int32.ofNat i)), .val (.long (((0 : Int64) ^^^ ((own_K R1 R2 i).toInt64)) * (-7046029254386353131 : Int64))), .second, .val (.int (Int32.ofNat jj))] [(.int (Int32.ofNat jj)), (.ref zf)])) rfl rfl (hb hby d7_122)) ?_
                rw [own_tn (by omega)]
                show OGo p e below _ (T74.setTop (mkF m 123 #[.val (.ref a0), .val (.ref a1), .val (.int (Int32.ofNat cnt)), .val (.ref a3), .val (.ref a4), .val (.int (1 : Int32)), .val (.int (Int32.ofNat i)), .val (.int (Int32.ofNat i)), .val (.long (((0 : Int64) ^^^ ((own_K R1 R2 i).toInt64)) * (-7046029254386353131 : Int64))), .second, .val (.int (Int32.ofNat jj))] [(.int (gg.getD jj 0))]))
                by_cases hc123_76 : (gg.getD jj 0) < (0 : Int32)
                · refine OGo.by (fun _ k => XS.ifYes X74.here hx rfl (pc0 := 123) (pc' := 163) rfl (hb hby d7_123) rfl ((if0 _ _).trans (tlt hc123_76).1) (by decide) (by decide) k) ?_
                  show OGo p e below _ (T74.setTop (mkF m 163 #[.val (.ref a0), .val (.ref a1), .val (.int (Int32.ofNat cnt)), .val (.ref a3), .val (.ref a4), .val (.int (1 : Int32)), .val (.int (Int32.ofNat i)), .val (.int (Int32.ofNat i)), .val (.long (((0 : Int64) ^^^ ((own_K R1 R2 i).toInt64)) * (-7046029254386353131 : Int64))), .second, .val (.int (Int32.ofNat jj))] []))
                  rw [ejj]
                  exact J163 _ _ X74 e74 Nc
                · refine OGo.by (fun _ k => XS.ifNo X74.here hx rfl (hb hby d7_123) rfl ((if0 _ _).trans (flt hc123_76).1) k) ?_
                  show OGo p e below _ (T74.setTop (mkF m 126 #[.val (.ref a0), .val (.ref a1), .val (.int (Int32.ofNat cnt)), .val (.ref a3), .val (.ref a4), .val (.int (1 : Int32)), .val (.int (Int32.ofNat i)), .val (.int (Int32.ofNat i)), .val (.long (((0 : Int64) ^^^ ((own_K R1 R2 i).toInt64)) * (-7046029254386353131 : Int64))), .second, .val (.int (Int32.ofNat jj))] []))
                  obtain ⟨wj, hwj4, ewj⟩ := own_Inv_pos hI (by omega) hjj hc123_76
                  have hkw : (own_K R1 R2 i) = (own_K R1 R2 wj) := by
                    have z := hst.resolve_left hc123_76
                    rwa [ewj, own_tn (by omega)] at z
                  refine OGo.by (fun _ k => XS.iload X74.here hx rfl (hb hby d7_126) rfl k) ?_
                  show OGo p e below _ (T74.setTop (mkF m 128 #[.val (.ref a0), .val (.ref a1), .val (.int (Int32.ofNat cnt)), .val (.ref a3), .val (.ref a4), .val (.int (1 : Int32)), .val (.int (Int32.ofNat i)), .val (.int (Int32.ofNat i)), .val (.long (((0 : Int64) ^^^ ((own_K R1 R2 i).toInt64)) * (-7046029254386353131 : Int64))), .second, .val (.int (Int32.ofNat jj))] [(.int (Int32.ofNat i))]))
                  refine OGo.by (fun _ k => XS.aloadN X74.here hx rfl (hb hby d7_128) rfl rfl k) ?_
                  show OGo p e below _ (T74.setTop (mkF m 129 #[.val (.ref a0), .val (.ref a1), .val (.int (Int32.ofNat cnt)), .val (.ref a3), .val (.ref a4), .val (.int (1 : Int32)), .val (.int (Int32.ofNat i)), .val (.int (Int32.ofNat i)), .val (.long (((0 : Int64) ^^^ ((own_K R1 R2 i).toInt64)) * (-7046029254386353131 : Int64))), .second, .val (.int (Int32.ofNat jj))] [(.ref a1), (.int (Int32.ofNat i))]))
                  refine OGo.by (fun _ k => XS.aloadN X74.here hx rfl (hb hby d7_129) rfl rfl k) ?_
                  show OGo p e below _ (T74.setTop (mkF m 130 #[.val (.ref a0), .val (.ref a1), .val (.int (Int32.ofNat cnt)), .val (.ref a3), .val (.ref a4), .val (.int (1 : Int32)), .val (.int (Int32.ofNat i)), .val (.int (Int32.ofNat i)), .val (.long (((0 : Int64) ^^^ ((own_K R1 R2 i).toInt64)) * (-7046029254386353131 : Int64))), .second, .val (.int (Int32.ofNat jj))] [(.ref a0), (.ref a1), (.int (Int32.ofNat i))]))
                  obtain ⟨T77, X77, e77, st77⟩ := getF X74 hx hZ hown (host := "") (Or.inl (hw _ (List.mem_of_getElem? (i := 27) rfl))) Via.refl e74 fF (g := (mkF m 130 #[.val (.ref a0), .val (.ref a1), .val (.int (Int32.ofNat cnt)), .val (.ref a3), .val (.ref a4), .val (.int (1 : Int32)), .val (.int (Int32.ofNat i)), .val (.int (Int32.ofNat i)), .val (.long (((0 : Int64) ^^^ ((own_K R1 R2 i).toInt64)) * (-7046029254386353131 : Int64))), .second, .val (.int (Int32.ofNat jj))] [(.ref a0), (.ref a1), (.int (Int32.ofNat i))])) rfl rfl (hb hby d7_130)
                  refine OGo.by st77 ?_
                  show OGo p e below _ (T77.setTop (mkF m 133 #[.val (.ref a0), .val (.ref a1), .val (.int (Int32.ofNat cnt)), .val (.ref a3), .val (.ref a4), .val (.int (1 : Int32)), .val (.int (Int32.ofNat i)), .val (.int (Int32.ofNat i)), .val (.long (((0 : Int64) ^^^ ((own_K R1 R2 i).toInt64)) * (-7046029254386353131 : Int64))), .second, .val (.int (Int32.ofNat jj))] [(.ref zf), (.ref a1), (.int (Int32.ofNat i))]))
                  refine OGo.by (fun _ k => XS.iload X77.here hx rfl (hb hby d7_133) rfl k) ?_
                  show OGo p e below _ (T77.setTop (mkF m 135 #[.val (.ref a0), .val (.ref a1), .val (.int (Int32.ofNat cnt)), .val (.ref a3), .val (.ref a4), .val (.int (1 : Int32)), .val (.int (Int32.ofNat i)), .val (.int (Int32.ofNat i)), .val (.long (((0 : Int64) ^^^ ((own_K R1 R2 i).toInt64)) * (-7046029254386353131 : Int64))), .second, .val (.int (Int32.ofNat jj))] [(.int (Int32.ofNat jj)), (.ref zf), (.ref a1), (.int (Int32.ofNat i))]))
                  obtain ⟨cl78, Ar78, q78, S78, M78, Hs78, G78⟩ := id fG
                  have hin78 := inb_of (j := (Int32.ofNat jj)) S78 (own_inM hcf hjj)
                  refine OGo.by (X77.iaload hx (j := (Int32.ofNat jj)) (v := (.int (gg.getD ((Int32.ofNat jj)).toNatClampNeg 0))) (by rw [e77]; exact Ar78.1) (State.isArrayOf_alike hZ.alike Ar78.2.1) Ar78.2.2 hin78 (Has.at Hs78 hin78 (own_getD _ _)) (g := (mkF m 135 #[.val (.ref a0), .val (.ref a1), .val (.int (Int32.ofNat cnt)), .val (.ref a3), .val (.ref a4), .val (.int (1 : Int32)), .val (.int (Int32.ofNat i)), .val (.int (Int32.ofNat i)), .val (.long (((0 : Int64) ^^^ ((own_K R1 R2 i).toInt64)) * (-7046029254386353131 : Int64))), .second, .val (.int (Int32.ofNat jj))] [(.int (Int32.ofNat jj)), (.ref zf), (.ref a1), (.int (Int32.ofNat i))])) rfl rfl (hb hby d7_135)) ?_
                  rw [own_tn (by omega)]
                  rw [ewj]
                  show OGo p e below _ (T77.setTop (mkF m 136 #[.val (.ref a0), .val (.ref a1), .val (.int (Int32.ofNat cnt)), .val (.ref a3), .val (.ref a4), .val (.int (1 : Int32)), .val (.int (Int32.ofNat i)), .val (.int (Int32.ofNat i)), .val (.long (((0 : Int64) ^^^ ((own_K R1 R2 i).toInt64)) * (-7046029254386353131 : Int64))), .second, .val (.int (Int32.ofNat jj))] [(.int (Int32.ofNat wj)), (.ref a1), (.int (Int32.ofNat i))]))
                  obtain ⟨cl79, Ar79, q79, S79, M79, Hs79, G79⟩ := id fu
                  have hin79 := inb_of (j := (Int32.ofNat wj)) S79 (own_in4 hwj4)
                  refine OGo.by (X77.iaload hx (j := (Int32.ofNat wj)) (v := (.int (own_U.getD ((Int32.ofNat wj)).toNatClampNeg 0))) (by rw [e77]; exact Ar79.1) (State.isArrayOf_alike hZ.alike Ar79.2.1) Ar79.2.2 hin79 (Has.at Hs79 hin79 (own_getD _ _)) (g := (mkF m 136 #[.val (.ref a0), .val (.ref a1), .val (.int (Int32.ofNat cnt)), .val (.ref a3), .val (.ref a4), .val (.int (1 : Int32)), .val (.int (Int32.ofNat i)), .val (.int (Int32.ofNat i)), .val (.long (((0 : Int64) ^^^ ((own_K R1 R2 i).toInt64)) * (-7046029254386353131 : Int64))), .second, .val (.int (Int32.ofNat jj))] [(.int (Int32.ofNat wj)), (.ref a1), (.int (Int32.ofNat i))])) rfl rfl (hb hby d7_136)) ?_
                  rw [own_tn (by omega), own_Uat hwj4]
                  show OGo p e below _ (T77.setTop (mkF m 137 #[.val (.ref a0), .val (.ref a1), .val (.int (Int32.ofNat cnt)), .val (.ref a3), .val (.ref a4), .val (.int (1 : Int32)), .val (.int (Int32.ofNat i)), .val (.int (Int32.ofNat i)), .val (.long (((0 : Int64) ^^^ ((own_K R1 R2 i).toInt64)) * (-7046029254386353131 : Int64))), .second, .val (.int (Int32.ofNat jj))] [(.int (Int32.ofNat wj)), (.int (Int32.ofNat i))]))
                  refine OGo.by (fun _ k => XS.aloadN X77.here hx rfl (hb hby d7_137) rfl rfl k) ?_
                  show OGo p e below _ (T77.setTop (mkF m 138 #[.val (.ref a0), .val (.ref a1), .val (.int (Int32.ofNat cnt)), .val (.ref a3), .val (.ref a4), .val (.int (1 : Int32)), .val (.int (Int32.ofNat i)), .val (.int (Int32.ofNat i)), .val (.long (((0 : Int64) ^^^ ((own_K R1 R2 i).toInt64)) * (-7046029254386353131 : Int64))), .second, .val (.int (Int32.ofNat jj))] [(.ref a3), (.int (Int32.ofNat wj)), (.int (Int32.ofNat i))]))
                  refine OGo.by (fun _ k => XS.aload X77.here hx rfl (hb hby d7_138) rfl rfl k) ?_
                  show OGo p e below _ (T77.setTop (mkF m 140 #[.val (.ref a0), .val (.ref a1), .val (.int (Int32.ofNat cnt)), .val (.ref a3), .val (.ref a4), .val (.int (1 : Int32)), .val (.int (Int32.ofNat i)), .val (.int (Int32.ofNat i)), .val (.long (((0 : Int64) ^^^ ((own_K R1 R2 i).toInt64)) * (-7046029254386353131 : Int64))), .second, .val (.int (Int32.ofNat jj))] [(.ref a4), (.ref a3), (.int (Int32.ofNat wj)), (.int (Int32.ofNat i))]))
                  have H80 := Jvm.LawKit.callS X77 hx (y := (⟨"com/example/faces_into_crowds/facesintocrowds/Buckets", "alike", "(II[I[[I)Z"⟩ : MethodName)) hown (mvT hZ (hw _ (List.mem_of_getElem? (i := 58) rfl))) (mvT hZ (hw _ (List.mem_of_getElem? (i := 59) rfl))) (mvT hZ (hw _ (List.mem_of_getElem? (i := 6) rfl))) (mvT hZ (hw _ (List.mem_of_getElem? (i := 60) rfl))) (by decide) (backOf (W := 0) (rm_al l Z av0 hw [] a3 a4 i wj zr kv kr kn R1 R2 hh n0 (Nat.le_trans Z0 KK.1) fv fr_ fn_ hR1 hR2 (by omega) hwj4) hZ (hw _ (List.mem_of_getElem? (i := 60) rfl)) (hw _ (List.mem_of_getElem? (i := 6) rfl)) (by decide) (by decide)) (g := (mkF m 140 #[.val (.ref a0), .val (.ref a1), .val (.int (Int32.ofNat cnt)), .val (.ref a3), .val (.ref a4), .val (.int (1 : Int32)), .val (.int (Int32.ofNat i)), .val (.int (Int32.ofNat i)), .val (.long (((0 : Int64) ^^^ ((own_K R1 R2 i).toInt64)) * (-7046029254386353131 : Int64))), .second, .val (.int (Int32.ofNat jj))] [(.ref a4), (.ref a3), (.int (Int32.ofNat wj)), (.int (Int32.ofNat i))])) rfl (by rw [hml]; rfl) (argsL := [(.int (Int32.ofNat i)), (.int (Int32.ofNat wj)), (.ref a3), (.ref a4)]) (rest := []) (lenOf own_pd4 rfl) rfl (by show 2 * 0 + _ ≤ _; exact Nat.le_of_eq rfl) (hb hby d7_140) (fun _ _ => ⟨rfl, e77, (by decide : 0 + 0 ≤ _), (by decide : 0 + 0 ≤ _)⟩)
                  refine own_cpsP H80 (c' := 0) (s' := 0) rfl rfl Nc (r := (some (.int (own_eq (own_K R1 R2 i) (own_K R1 R2 wj))))) (h1 := hh) (fun _ _ _ q => q) ?_
                  clear H80
                  intro T80 L80 X80 N80 e80
                  show OGo p e below _ (T80.setTop (mkF m 143 #[.val (.ref a0), .val (.ref a1), .val (.int (Int32.ofNat cnt)), .val (.ref a3), .val (.ref a4), .val (.int (1 : Int32)), .val (.int (Int32.ofNat i)), .val (.int (Int32.ofNat i)), .val (.long (((0 : Int64) ^^^ ((own_K R1 R2 i).toInt64)) * (-7046029254386353131 : Int64))), .second, .val (.int (Int32.ofNat jj))] [(.int (own_eq (own_K R1 R2 i) (own_K R1 R2 wj)))]))
                  refine OGo.by (fun _ k => XS.ifYes X80.here hx rfl (pc0 := 143) (pc' := 163) rfl (hb hby d7_143) rfl ((if0 _ _).trans (feq (by rw [own_eq, if_pos hkw]; decide)).2) (by decide) (by decide) k) ?_
                  show OGo p e below _ (T80.setTop (mkF m 163 #[.val (.ref a0), .val (.ref a1), .val (.int (Int32.ofNat cnt)), .val (.ref a3), .val (.ref a4), .val (.int (1 : Int32)), .val (.int (Int32.ofNat i)), .val (.int (Int32.ofNat i)), .val (.long (((0 : Int64) ^^^ ((own_K R1 R2 i).toInt64)) * (-7046029254386353131 : Int64))), .second, .val (.int (Int32.ofNat jj))] []))
                  rw [ejj]
                  exact J163 _ _ X80 e80 N80
              · obtain ⟨nC', en, hf', hp'⟩ := own_pr_go hst hf
                cases en
                rw [hp'] at hp
                have hp' := hp
                show OGo p e below _ (Tc.setTop (mkF m 116 #[.val (.ref a0), .val (.ref a1), .val (.int (Int32.ofNat cnt)), .val (.ref a3), .val (.ref a4), .val (.int (1 : Int32)), .val (.int (Int32.ofNat i)), .val (.int (Int32.ofNat i)), .val (.long (((0 : Int64) ^^^ ((own_K R1 R2 i).toInt64)) * (-7046029254386353131 : Int64))), .second, .val (.int (Int32.ofNat jj))] []))
                refine OGo.by (fun _ k => XS.aloadN Xc.here hx rfl (hb hby d7_116) rfl rfl k) ?_
                show OGo p e below _ (Tc.setTop (mkF m 117 #[.val (.ref a0), .val (.ref a1), .val (.int (Int32.ofNat cnt)), .val (.ref a3), .val (.ref a4), .val (.int (1 : Int32)), .val (.int (Int32.ofNat i)), .val (.int (Int32.ofNat i)), .val (.long (((0 : Int64) ^^^ ((own_K R1 R2 i).toInt64)) * (-7046029254386353131 : Int64))), .second, .val (.int (Int32.ofNat jj))] [(.ref a0)]))
                obtain ⟨T81, X81, e81, st81⟩ := getF Xc hx hZ hown (host := "") (Or.inl (hw _ (List.mem_of_getElem? (i := 27) rfl))) Via.refl eC fF (g := (mkF m 117 #[.val (.ref a0), .val (.ref a1), .val (.int (Int32.ofNat cnt)), .val (.ref a3), .val (.ref a4), .val (.int (1 : Int32)), .val (.int (Int32.ofNat i)), .val (.int (Int32.ofNat i)), .val (.long (((0 : Int64) ^^^ ((own_K R1 R2 i).toInt64)) * (-7046029254386353131 : Int64))), .second, .val (.int (Int32.ofNat jj))] [(.ref a0)])) rfl rfl (hb hby d7_117)
                refine OGo.by st81 ?_
                show OGo p e below _ (T81.setTop (mkF m 120 #[.val (.ref a0), .val (.ref a1), .val (.int (Int32.ofNat cnt)), .val (.ref a3), .val (.ref a4), .val (.int (1 : Int32)), .val (.int (Int32.ofNat i)), .val (.int (Int32.ofNat i)), .val (.long (((0 : Int64) ^^^ ((own_K R1 R2 i).toInt64)) * (-7046029254386353131 : Int64))), .second, .val (.int (Int32.ofNat jj))] [(.ref zf)]))
                refine OGo.by (fun _ k => XS.iload X81.here hx rfl (hb hby d7_120) rfl k) ?_
                show OGo p e below _ (T81.setTop (mkF m 122 #[.val (.ref a0), .val (.ref a1), .val (.int (Int32.ofNat cnt)), .val (.ref a3), .val (.ref a4), .val (.int (1 : Int32)), .val (.int (Int32.ofNat i)), .val (.int (Int32.ofNat i)), .val (.long (((0 : Int64) ^^^ ((own_K R1 R2 i).toInt64)) * (-7046029254386353131 : Int64))), .second, .val (.int (Int32.ofNat jj))] [(.int (Int32.ofNat jj)), (.ref zf)]))
                obtain ⟨cl82, Ar82, q82, S82, M82, Hs82, G82⟩ := id fG
                have hin82 := inb_of (j := (Int32.ofNat jj)) S82 (own_inM hcf hjj)
                refine OGo.by (X81.iaload hx (j := (Int32.ofNat jj)) (v := (.int (gg.getD ((Int32.ofNat jj)).toNatClampNeg 0))) (by rw [e81]; exact Ar82.1) (State.isArrayOf_alike hZ.alike Ar82.2.1) Ar82.2.2 hin82 (Has.at Hs82 hin82 (own_getD _ _)) (g := (mkF m 122 #[.val (.ref a0), .val (.ref a1), .val (.int (Int32.ofNat cnt)), .val (.ref a3), .val (.ref a4), .val (.int (1 : Int32)), .val (.int (Int32.ofNat i)), .val (.int (Int32.ofNat i)), .val (.long (((0 : Int64) ^^^ ((own_K R1 R2 i).toInt64)) * (-7046029254386353131 : Int64))), .second, .val (.int (Int32.ofNat jj))] [(.int (Int32.ofNat jj)), (.ref zf)])) rfl rfl (hb hby d7_122)) ?_
                rw [own_tn (by omega)]
                show OGo p e below _ (T81.setTop (mkF m 123 #[.val (.ref a0), .val (.ref a1), .val (.int (Int32.ofNat cnt)), .val (.ref a3), .val (.ref a4), .val (.int (1 : Int32)), .val (.int (Int32.ofNat i)), .val (.int (Int32.ofNat i)), .val (.long (((0 : Int64) ^^^ ((own_K R1 R2 i).toInt64)) * (-7046029254386353131 : Int64))), .second, .val (.int (Int32.ofNat jj))] [(.int (gg.getD jj 0))]))
                refine OGo.by (fun _ k => XS.ifNo X81.here hx rfl (hb hby d7_123) rfl ((if0 _ _).trans (flt (fun q => hst (Or.inl q))).1) k) ?_
                show OGo p e below _ (T81.setTop (mkF m 126 #[.val (.ref a0), .val (.ref a1), .val (.int (Int32.ofNat cnt)), .val (.ref a3), .val (.ref a4), .val (.int (1 : Int32)), .val (.int (Int32.ofNat i)), .val (.int (Int32.ofNat i)), .val (.long (((0 : Int64) ^^^ ((own_K R1 R2 i).toInt64)) * (-7046029254386353131 : Int64))), .second, .val (.int (Int32.ofNat jj))] []))
                obtain ⟨wj, hwj4, ewj⟩ := own_Inv_pos hI (by omega) hjj (fun q => hst (Or.inl q))
                have hkw : ¬ (own_K R1 R2 i) = (own_K R1 R2 wj) := fun q => hst (Or.inr (by rw [ewj, own_tn (by omega)]; exact q))
                refine OGo.by (fun _ k => XS.iload X81.here hx rfl (hb hby d7_126) rfl k) ?_
                show OGo p e below _ (T81.setTop (mkF m 128 #[.val (.ref a0), .val (.ref a1), .val (.int (Int32.ofNat cnt)), .val (.ref a3), .val (.ref a4), .val (.int (1 : Int32)), .val (.int (Int32.ofNat i)), .val (.int (Int32.ofNat i)), .val (.long (((0 : Int64) ^^^ ((own_K R1 R2 i).toInt64)) * (-7046029254386353131 : Int64))), .second, .val (.int (Int32.ofNat jj))] [(.int (Int32.ofNat i))]))
                refine OGo.by (fun _ k => XS.aloadN X81.here hx rfl (hb hby d7_128) rfl rfl k) ?_
                show OGo p e below _ (T81.setTop (mkF m 129 #[.val (.ref a0), .val (.ref a1), .val (.int (Int32.ofNat cnt)), .val (.ref a3), .val (.ref a4), .val (.int (1 : Int32)), .val (.int (Int32.ofNat i)), .val (.int (Int32.ofNat i)), .val (.long (((0 : Int64) ^^^ ((own_K R1 R2 i).toInt64)) * (-7046029254386353131 : Int64))), .second, .val (.int (Int32.ofNat jj))] [(.ref a1), (.int (Int32.ofNat i))]))
                refine OGo.by (fun _ k => XS.aloadN X81.here hx rfl (hb hby d7_129) rfl rfl k) ?_
                show OGo p e below _ (T81.setTop (mkF m 130 #[.val (.ref a0), .val (.ref a1), .val (.int (Int32.ofNat cnt)), .val (.ref a3), .val (.ref a4), .val (.int (1 : Int32)), .val (.int (Int32.ofNat i)), .val (.int (Int32.ofNat i)), .val (.long (((0 : Int64) ^^^ ((own_K R1 R2 i).toInt64)) * (-7046029254386353131 : Int64))), .second, .val (.int (Int32.ofNat jj))] [(.ref a0), (.ref a1), (.int (Int32.ofNat i))]))
                obtain ⟨T83, X83, e83, st83⟩ := getF X81 hx hZ hown (host := "") (Or.inl (hw _ (List.mem_of_getElem? (i := 27) rfl))) Via.refl e81 fF (g := (mkF m 130 #[.val (.ref a0), .val (.ref a1), .val (.int (Int32.ofNat cnt)), .val (.ref a3), .val (.ref a4), .val (.int (1 : Int32)), .val (.int (Int32.ofNat i)), .val (.int (Int32.ofNat i)), .val (.long (((0 : Int64) ^^^ ((own_K R1 R2 i).toInt64)) * (-7046029254386353131 : Int64))), .second, .val (.int (Int32.ofNat jj))] [(.ref a0), (.ref a1), (.int (Int32.ofNat i))])) rfl rfl (hb hby d7_130)
                refine OGo.by st83 ?_
                show OGo p e below _ (T83.setTop (mkF m 133 #[.val (.ref a0), .val (.ref a1), .val (.int (Int32.ofNat cnt)), .val (.ref a3), .val (.ref a4), .val (.int (1 : Int32)), .val (.int (Int32.ofNat i)), .val (.int (Int32.ofNat i)), .val (.long (((0 : Int64) ^^^ ((own_K R1 R2 i).toInt64)) * (-7046029254386353131 : Int64))), .second, .val (.int (Int32.ofNat jj))] [(.ref zf), (.ref a1), (.int (Int32.ofNat i))]))
                refine OGo.by (fun _ k => XS.iload X83.here hx rfl (hb hby d7_133) rfl k) ?_
                show OGo p e below _ (T83.setTop (mkF m 135 #[.val (.ref a0), .val (.ref a1), .val (.int (Int32.ofNat cnt)), .val (.ref a3), .val (.ref a4), .val (.int (1 : Int32)), .val (.int (Int32.ofNat i)), .val (.int (Int32.ofNat i)), .val (.long (((0 : Int64) ^^^ ((own_K R1 R2 i).toInt64)) * (-7046029254386353131 : Int64))), .second, .val (.int (Int32.ofNat jj))] [(.int (Int32.ofNat jj)), (.ref zf), (.ref a1), (.int (Int32.ofNat i))]))
                obtain ⟨cl84, Ar84, q84, S84, M84, Hs84, G84⟩ := id fG
                have hin84 := inb_of (j := (Int32.ofNat jj)) S84 (own_inM hcf hjj)
                refine OGo.by (X83.iaload hx (j := (Int32.ofNat jj)) (v := (.int (gg.getD ((Int32.ofNat jj)).toNatClampNeg 0))) (by rw [e83]; exact Ar84.1) (State.isArrayOf_alike hZ.alike Ar84.2.1) Ar84.2.2 hin84 (Has.at Hs84 hin84 (own_getD _ _)) (g := (mkF m 135 #[.val (.ref a0), .val (.ref a1), .val (.int (Int32.ofNat cnt)), .val (.ref a3), .val (.ref a4), .val (.int (1 : Int32)), .val (.int (Int32.ofNat i)), .val (.int (Int32.ofNat i)), .val (.long (((0 : Int64) ^^^ ((own_K R1 R2 i).toInt64)) * (-7046029254386353131 : Int64))), .second, .val (.int (Int32.ofNat jj))] [(.int (Int32.ofNat jj)), (.ref zf), (.ref a1), (.int (Int32.ofNat i))])) rfl rfl (hb hby d7_135)) ?_
                rw [own_tn (by omega)]
                rw [ewj]
                show OGo p e below _ (T83.setTop (mkF m 136 #[.val (.ref a0), .val (.ref a1), .val (.int (Int32.ofNat cnt)), .val (.ref a3), .val (.ref a4), .val (.int (1 : Int32)), .val (.int (Int32.ofNat i)), .val (.int (Int32.ofNat i)), .val (.long (((0 : Int64) ^^^ ((own_K R1 R2 i).toInt64)) * (-7046029254386353131 : Int64))), .second, .val (.int (Int32.ofNat jj))] [(.int (Int32.ofNat wj)), (.ref a1), (.int (Int32.ofNat i))]))
                obtain ⟨cl85, Ar85, q85, S85, M85, Hs85, G85⟩ := id fu
                have hin85 := inb_of (j := (Int32.ofNat wj)) S85 (own_in4 hwj4)
                refine OGo.by (X83.iaload hx (j := (Int32.ofNat wj)) (v := (.int (own_U.getD ((Int32.ofNat wj)).toNatClampNeg 0))) (by rw [e83]; exact Ar85.1) (State.isArrayOf_alike hZ.alike Ar85.2.1) Ar85.2.2 hin85 (Has.at Hs85 hin85 (own_getD _ _)) (g := (mkF m 136 #[.val (.ref a0), .val (.ref a1), .val (.int (Int32.ofNat cnt)), .val (.ref a3), .val (.ref a4), .val (.int (1 : Int32)), .val (.int (Int32.ofNat i)), .val (.int (Int32.ofNat i)), .val (.long (((0 : Int64) ^^^ ((own_K R1 R2 i).toInt64)) * (-7046029254386353131 : Int64))), .second, .val (.int (Int32.ofNat jj))] [(.int (Int32.ofNat wj)), (.ref a1), (.int (Int32.ofNat i))])) rfl rfl (hb hby d7_136)) ?_
                rw [own_tn (by omega), own_Uat hwj4]
                show OGo p e below _ (T83.setTop (mkF m 137 #[.val (.ref a0), .val (.ref a1), .val (.int (Int32.ofNat cnt)), .val (.ref a3), .val (.ref a4), .val (.int (1 : Int32)), .val (.int (Int32.ofNat i)), .val (.int (Int32.ofNat i)), .val (.long (((0 : Int64) ^^^ ((own_K R1 R2 i).toInt64)) * (-7046029254386353131 : Int64))), .second, .val (.int (Int32.ofNat jj))] [(.int (Int32.ofNat wj)), (.int (Int32.ofNat i))]))
                refine OGo.by (fun _ k => XS.aloadN X83.here hx rfl (hb hby d7_137) rfl rfl k) ?_
                show OGo p e below _ (T83.setTop (mkF m 138 #[.val (.ref a0), .val (.ref a1), .val (.int (Int32.ofNat cnt)), .val (.ref a3), .val (.ref a4), .val (.int (1 : Int32)), .val (.int (Int32.ofNat i)), .val (.int (Int32.ofNat i)), .val (.long (((0 : Int64) ^^^ ((own_K R1 R2 i).toInt64)) * (-7046029254386353131 : Int64))), .second, .val (.int (Int32.ofNat jj))] [(.ref a3), (.int (Int32.ofNat wj)), (.int (Int32.ofNat i))]))
                refine OGo.by (fun _ k => XS.aload X83.here hx rfl (hb hby d7_138) rfl rfl k) ?_
                show OGo p e below _ (T83.setTop (mkF m 140 #[.val (.ref a0), .val (.ref a1), .val (.int (Int32.ofNat cnt)), .val (.ref a3), .val (.ref a4), .val (.int (1 : Int32)), .val (.int (Int32.ofNat i)), .val (.int (Int32.ofNat i)), .val (.long (((0 : Int64) ^^^ ((own_K R1 R2 i).toInt64)) * (-7046029254386353131 : Int64))), .second, .val (.int (Int32.ofNat jj))] [(.ref a4), (.ref a3), (.int (Int32.ofNat wj)), (.int (Int32.ofNat i))]))
                have H86 := Jvm.LawKit.callS X83 hx (y := (⟨"com/example/faces_into_crowds/facesintocrowds/Buckets", "alike", "(II[I[[I)Z"⟩ : MethodName)) hown (mvT hZ (hw _ (List.mem_of_getElem? (i := 58) rfl))) (mvT hZ (hw _ (List.mem_of_getElem? (i := 59) rfl))) (mvT hZ (hw _ (List.mem_of_getElem? (i := 6) rfl))) (mvT hZ (hw _ (List.mem_of_getElem? (i := 60) rfl))) (by decide) (backOf (W := 0) (rm_al l Z av0 hw [] a3 a4 i wj zr kv kr kn R1 R2 hh n0 (Nat.le_trans Z0 KK.1) fv fr_ fn_ hR1 hR2 (by omega) hwj4) hZ (hw _ (List.mem_of_getElem? (i := 60) rfl)) (hw _ (List.mem_of_getElem? (i := 6) rfl)) (by decide) (by decide)) (g := (mkF m 140 #[.val (.ref a0), .val (.ref a1), .val (.int (Int32.ofNat cnt)), .val (.ref a3), .val (.ref a4), .val (.int (1 : Int32)), .val (.int (Int32.ofNat i)), .val (.int (Int32.ofNat i)), .val (.long (((0 : Int64) ^^^ ((own_K R1 R2 i).toInt64)) * (-7046029254386353131 : Int64))), .second, .val (.int (Int32.ofNat jj))] [(.ref a4), (.ref a3), (.int (Int32.ofNat wj)), (.int (Int32.ofNat i))])) rfl (by rw [hml]; rfl) (argsL := [(.int (Int32.ofNat i)), (.int (Int32.ofNat wj)), (.ref a3), (.ref a4)]) (rest := []) (lenOf own_pd4 rfl) rfl (by show 2 * 0 + _ ≤ _; exact Nat.le_of_eq rfl) (hb hby d7_140) (fun _ _ => ⟨rfl, e83, (by decide : 0 + 0 ≤ _), (by decide : 0 + 0 ≤ _)⟩)
                refine own_cpsP H86 (c' := 0) (s' := 0) rfl rfl Nc (r := (some (.int (own_eq (own_K R1 R2 i) (own_K R1 R2 wj))))) (h1 := hh) (fun _ _ _ q => q) ?_
                clear H86
                intro T86 L86 X86 N86 e86
                show OGo p e below _ (T86.setTop (mkF m 143 #[.val (.ref a0), .val (.ref a1), .val (.int (Int32.ofNat cnt)), .val (.ref a3), .val (.ref a4), .val (.int (1 : Int32)), .val (.int (Int32.ofNat i)), .val (.int (Int32.ofNat i)), .val (.long (((0 : Int64) ^^^ ((own_K R1 R2 i).toInt64)) * (-7046029254386353131 : Int64))), .second, .val (.int (Int32.ofNat jj))] [(.int (own_eq (own_K R1 R2 i) (own_K R1 R2 wj)))]))
                refine OGo.by (fun _ k => XS.ifNo X86.here hx rfl (hb hby d7_143) rfl ((if0 _ _).trans (teq (if_neg hkw)).2) k) ?_
                show OGo p e below _ (T86.setTop (mkF m 146 #[.val (.ref a0), .val (.ref a1), .val (.int (Int32.ofNat cnt)), .val (.ref a3), .val (.ref a4), .val (.int (1 : Int32)), .val (.int (Int32.ofNat i)), .val (.int (Int32.ofNat i)), .val (.long (((0 : Int64) ^^^ ((own_K R1 R2 i).toInt64)) * (-7046029254386353131 : Int64))), .second, .val (.int (Int32.ofNat jj))] []))
                refine OGo.by (fun _ k => XS.iload X86.here hx rfl (hb hby d7_146) rfl k) ?_
                show OGo p e below _ (T86.setTop (mkF m 148 #[.val (.ref a0), .val (.ref a1), .val (.int (Int32.ofNat cnt)), .val (.ref a3), .val (.ref a4), .val (.int (1 : Int32)), .val (.int (Int32.ofNat i)), .val (.int (Int32.ofNat i)), .val (.long (((0 : Int64) ^^^ ((own_K R1 R2 i).toInt64)) * (-7046029254386353131 : Int64))), .second, .val (.int (Int32.ofNat jj))] [(.int (Int32.ofNat jj))]))
                refine OGo.by (fun _ k => XS.iconst X86.here hx rfl (hb hby d7_148) k) ?_
                show OGo p e below _ (T86.setTop (mkF m 149 #[.val (.ref a0), .val (.ref a1), .val (.int (Int32.ofNat cnt)), .val (.ref a3), .val (.ref a4), .val (.int (1 : Int32)), .val (.int (Int32.ofNat i)), .val (.int (Int32.ofNat i)), .val (.long (((0 : Int64) ^^^ ((own_K R1 R2 i).toInt64)) * (-7046029254386353131 : Int64))), .second, .val (.int (Int32.ofNat jj))] [(.int (1 : Int32)), (.int (Int32.ofNat jj))]))
                refine OGo.by (fun _ k => XS.iadd X86.here hx rfl (hb hby d7_149) rfl k) ?_
                show OGo p e below _ (T86.setTop (mkF m 150 #[.val (.ref a0), .val (.ref a1), .val (.int (Int32.ofNat cnt)), .val (.ref a3), .val (.ref a4), .val (.int (1 : Int32)), .val (.int (Int32.ofNat i)), .val (.int (Int32.ofNat i)), .val (.long (((0 : Int64) ^^^ ((own_K R1 R2 i).toInt64)) * (-7046029254386353131 : Int64))), .second, .val (.int (Int32.ofNat jj))] [(.int ((Int32.ofNat jj) + (1 : Int32)))]))
                refine OGo.by (fun _ k => XS.aloadN X86.here hx rfl (hb hby d7_150) rfl rfl k) ?_
                show OGo p e below _ (T86.setTop (mkF m 151 #[.val (.ref a0), .val (.ref a1), .val (.int (Int32.ofNat cnt)), .val (.ref a3), .val (.ref a4), .val (.int (1 : Int32)), .val (.int (Int32.ofNat i)), .val (.int (Int32.ofNat i)), .val (.long (((0 : Int64) ^^^ ((own_K R1 R2 i).toInt64)) * (-7046029254386353131 : Int64))), .second, .val (.int (Int32.ofNat jj))] [(.ref a0), (.int ((Int32.ofNat jj) + (1 : Int32)))]))
                obtain ⟨T87, X87, e87, st87⟩ := getF X86 hx hZ hown (host := "") (Or.inl (hw _ (List.mem_of_getElem? (i := 27) rfl))) Via.refl e86 fF (g := (mkF m 151 #[.val (.ref a0), .val (.ref a1), .val (.int (Int32.ofNat cnt)), .val (.ref a3), .val (.ref a4), .val (.int (1 : Int32)), .val (.int (Int32.ofNat i)), .val (.int (Int32.ofNat i)), .val (.long (((0 : Int64) ^^^ ((own_K R1 R2 i).toInt64)) * (-7046029254386353131 : Int64))), .second, .val (.int (Int32.ofNat jj))] [(.ref a0), (.int ((Int32.ofNat jj) + (1 : Int32)))])) rfl rfl (hb hby d7_151)
                refine OGo.by st87 ?_
                show OGo p e below _ (T87.setTop (mkF m 154 #[.val (.ref a0), .val (.ref a1), .val (.int (Int32.ofNat cnt)), .val (.ref a3), .val (.ref a4), .val (.int (1 : Int32)), .val (.int (Int32.ofNat i)), .val (.int (Int32.ofNat i)), .val (.long (((0 : Int64) ^^^ ((own_K R1 R2 i).toInt64)) * (-7046029254386353131 : Int64))), .second, .val (.int (Int32.ofNat jj))] [(.ref zf), (.int ((Int32.ofNat jj) + (1 : Int32)))]))
                obtain ⟨cl88, Ar88, q88, S88, M88, -, -⟩ := id fG
                refine OGo.by (X87.arraylength hx (by rw [e87]; exact Ar88.1) (State.isArrayOf_alike hZ.alike Ar88.2.1) (g := (mkF m 154 #[.val (.ref a0), .val (.ref a1), .val (.int (Int32.ofNat cnt)), .val (.ref a3), .val (.ref a4), .val (.int (1 : Int32)), .val (.int (Int32.ofNat i)), .val (.int (Int32.ofNat i)), .val (.long (((0 : Int64) ^^^ ((own_K R1 R2 i).toInt64)) * (-7046029254386353131 : Int64))), .second, .val (.int (Int32.ofNat jj))] [(.ref zf), (.int ((Int32.ofNat jj) + (1 : Int32)))])) rfl rfl (hb hby d7_154)) ?_
                rw [len_of S88 M88]
                show OGo p e below _ (T87.setTop (mkF m 155 #[.val (.ref a0), .val (.ref a1), .val (.int (Int32.ofNat cnt)), .val (.ref a3), .val (.ref a4), .val (.int (1 : Int32)), .val (.int (Int32.ofNat i)), .val (.int (Int32.ofNat i)), .val (.long (((0 : Int64) ^^^ ((own_K R1 R2 i).toInt64)) * (-7046029254386353131 : Int64))), .second, .val (.int (Int32.ofNat jj))] [(.int ml), (.int ((Int32.ofNat jj) + (1 : Int32)))]))
                refine OGo.by (fun _ k => XS.iconst X87.here hx rfl (hb hby d7_155) k) ?_
                show OGo p e below _ (T87.setTop (mkF m 156 #[.val (.ref a0), .val (.ref a1), .val (.int (Int32.ofNat cnt)), .val (.ref a3), .val (.ref a4), .val (.int (1 : Int32)), .val (.int (Int32.ofNat i)), .val (.int (Int32.ofNat i)), .val (.long (((0 : Int64) ^^^ ((own_K R1 R2 i).toInt64)) * (-7046029254386353131 : Int64))), .second, .val (.int (Int32.ofNat jj))] [(.int (1 : Int32)), (.int ml), (.int ((Int32.ofNat jj) + (1 : Int32)))]))
                refine OGo.by (fun _ k => XS.isub X87.here hx rfl (hb hby d7_156) rfl k) ?_
                show OGo p e below _ (T87.setTop (mkF m 157 #[.val (.ref a0), .val (.ref a1), .val (.int (Int32.ofNat cnt)), .val (.ref a3), .val (.ref a4), .val (.int (1 : Int32)), .val (.int (Int32.ofNat i)), .val (.int (Int32.ofNat i)), .val (.long (((0 : Int64) ^^^ ((own_K R1 R2 i).toInt64)) * (-7046029254386353131 : Int64))), .second, .val (.int (Int32.ofNat jj))] [(.int (ml - (1 : Int32))), (.int ((Int32.ofNat jj) + (1 : Int32)))]))
                refine OGo.by (fun _ k => XS.iand X87.here hx rfl (hb hby d7_157) rfl k) ?_
                show OGo p e below _ (T87.setTop (mkF m 158 #[.val (.ref a0), .val (.ref a1), .val (.int (Int32.ofNat cnt)), .val (.ref a3), .val (.ref a4), .val (.int (1 : Int32)), .val (.int (Int32.ofNat i)), .val (.int (Int32.ofNat i)), .val (.long (((0 : Int64) ^^^ ((own_K R1 R2 i).toInt64)) * (-7046029254386353131 : Int64))), .second, .val (.int (Int32.ofNat jj))] [(.int (((Int32.ofNat jj) + (1 : Int32)) &&& (ml - (1 : Int32))))]))
                rw [own_next hcf hjj]
                show OGo p e below _ (T87.setTop (mkF m 158 #[.val (.ref a0), .val (.ref a1), .val (.int (Int32.ofNat cnt)), .val (.ref a3), .val (.ref a4), .val (.int (1 : Int32)), .val (.int (Int32.ofNat i)), .val (.int (Int32.ofNat i)), .val (.long (((0 : Int64) ^^^ ((own_K R1 R2 i).toInt64)) * (-7046029254386353131 : Int64))), .second, .val (.int (Int32.ofNat jj))] [(.int (Int32.ofNat ((jj + 1) % mm)))]))
                refine OGo.by (fun _ k => XS.istore X87.here hx rfl (hb hby d7_158) rfl (l' := #[.val (.ref a0), .val (.ref a1), .val (.int (Int32.ofNat cnt)), .val (.ref a3), .val (.ref a4), .val (.int (1 : Int32)), .val (.int (Int32.ofNat i)), .val (.int (Int32.ofNat i)), .val (.long (((0 : Int64) ^^^ ((own_K R1 R2 i).toInt64)) * (-7046029254386353131 : Int64))), .second, .val (.int (Int32.ofNat ((jj + 1) % mm)))]) rfl k) ?_
                show OGo p e below _ (T87.setTop (mkF m 160 #[.val (.ref a0), .val (.ref a1), .val (.int (Int32.ofNat cnt)), .val (.ref a3), .val (.ref a4), .val (.int (1 : Int32)), .val (.int (Int32.ofNat i)), .val (.int (Int32.ofNat i)), .val (.long (((0 : Int64) ^^^ ((own_K R1 R2 i).toInt64)) * (-7046029254386353131 : Int64))), .second, .val (.int (Int32.ofNat ((jj + 1) % mm)))] []))
                refine OGo.by (fun _ k => XS.goto X87.here hx rfl (pc0 := 160) (pc' := 116) rfl (hb hby d7_160) (by decide) (by decide) k) ?_
                show OGo p e below _ (T87.setTop (mkF m 116 #[.val (.ref a0), .val (.ref a1), .val (.int (Int32.ofNat cnt)), .val (.ref a3), .val (.ref a4), .val (.int (1 : Int32)), .val (.int (Int32.ofNat i)), .val (.int (Int32.ofNat i)), .val (.long (((0 : Int64) ^^^ ((own_K R1 R2 i).toInt64)) * (-7046029254386353131 : Int64))), .second, .val (.int (Int32.ofNat ((jj + 1) % mm)))] []))
                exact ihC _ hf' (Nat.mod_lt _ (by omega)) hp' _ _ X87 e87 N86
          exact JC 3 _ hFI (hHM _) hR _ _ X12 e12 N
      have f89 : Exa Z h5 a0 "com/example/faces_into_crowds/facesintocrowds/Buckets" := (f3.wr W5)
      have f90 : Fld Z h5 a0 "com/example/faces_into_crowds/facesintocrowds/Buckets" "mFirst" "[I" (.ref zf) := ((fF.other W2 (Or.inr (slot_ne (Or.inr (hw _ (List.mem_of_getElem? (i := 28) rfl))) (Or.inl (hw _ (List.mem_of_getElem? (i := 47) rfl))) (by decide) (t := (.array .int)) (t' := (.array .int)) (by decide) (by decide)))).other W5 (Or.inr (slot_ne (Or.inr (hw _ (List.mem_of_getElem? (i := 28) rfl))) (Or.inl (hw _ (List.mem_of_getElem? (i := 45) rfl))) (by decide) (t := (.array .int)) (t' := .int) (by decide) (by decide))))
      have f91 : Fld Z h5 a0 "com/example/faces_into_crowds/facesintocrowds/Buckets" "mSlots" "[I" (.ref zs) := ((fS.other W2 (Or.inr (slot_ne (Or.inr (hw _ (List.mem_of_getElem? (i := 36) rfl))) (Or.inl (hw _ (List.mem_of_getElem? (i := 47) rfl))) (by decide) (t := (.array .int)) (t' := (.array .int)) (by decide) (by decide)))).other W5 (Or.inr (slot_ne (Or.inr (hw _ (List.mem_of_getElem? (i := 36) rfl))) (Or.inl (hw _ (List.mem_of_getElem? (i := 45) rfl))) (by decide) (t := (.array .int)) (t' := .int) (by decide) (by decide))))
      have f92 : Fld Z h5 a0 "com/example/faces_into_crowds/facesintocrowds/Buckets" "mNext" "[I" (.ref zn) := ((fN.other W2 (Or.inr (slot_ne (Or.inr (hw _ (List.mem_of_getElem? (i := 34) rfl))) (Or.inl (hw _ (List.mem_of_getElem? (i := 47) rfl))) (by decide) (t := (.array .int)) (t' := (.array .int)) (by decide) (by decide)))).other W5 (Or.inr (slot_ne (Or.inr (hw _ (List.mem_of_getElem? (i := 34) rfl))) (Or.inl (hw _ (List.mem_of_getElem? (i := 45) rfl))) (by decide) (t := (.array .int)) (t' := .int) (by decide) (by decide))))
      have f93 : Fld Z h5 a0 "com/example/faces_into_crowds/facesintocrowds/Buckets" "mShift" "I" (.int sh) := ((fH.other W2 (Or.inr (slot_ne (Or.inr (hw _ (List.mem_of_getElem? (i := 38) rfl))) (Or.inl (hw _ (List.mem_of_getElem? (i := 47) rfl))) (by decide) (t := .int) (t' := (.array .int)) (by decide) (by decide)))).other W5 (Or.inr (slot_ne (Or.inr (hw _ (List.mem_of_getElem? (i := 38) rfl))) (Or.inl (hw _ (List.mem_of_getElem? (i := 45) rfl))) (by decide) (t := .int) (t' := .int) (by decide) (by decide))))
      have f94 : Fld Z h5 a0 "com/example/faces_into_crowds/facesintocrowds/Buckets" "mUnits" "[I" (.ref a1) := (Fw2.other W5 (Or.inr (slot_ne (Or.inl (hw _ (List.mem_of_getElem? (i := 47) rfl))) (Or.inl (hw _ (List.mem_of_getElem? (i := 45) rfl))) (by decide) (t := (.array .int)) (t' := .int) (by decide) (by decide))))
      have f95 : Arv Z h5 a1 ku .int (4 : Int32) (own_U.map Value.int) (.int (0 : Int32)) := ((fu.other W2 (Ne.symm ne_a0_a1)).other W5 (Ne.symm ne_a0_a1))
      have f96 : Arv Z h5 a3 kv .int (4 : Int32) (R1.map Value.int) (.int (0 : Int32)) := ((fv.other W2 (Ne.symm ne_a0_a3)).other W5 (Ne.symm ne_a0_a3))
      have f97 : Arv Z h5 zr kr .int (4 : Int32) (R2.map Value.int) (.int (0 : Int32)) := ((fr_.other W2 (Ne.symm ne_a0_zr)).other W5 (Ne.symm ne_a0_zr))
      have f98 : Arv Z h5 zf kf .int ml (gg.map Value.int) (.int (0 : Int32)) := ((fG.other W2 (Ne.symm ne_a0_zf)).other W5 (Ne.symm ne_a0_zf))
      have f99 : Arv Z h5 zs ks .int cpI (lS.map Value.int) (.int (0 : Int32)) := ((fT.other W2 (Ne.symm ne_a0_zs)).other W5 (Ne.symm ne_a0_zs))
      have f100 : Arv Z h5 zn kx .int cpI (lX.map Value.int) (.int (0 : Int32)) := ((fX.other W2 (Ne.symm ne_a0_zn)).other W5 (Ne.symm ne_a0_zn))
      obtain rfl : i = nb := by omega
      exact LB cnt 0 (by omega) _ _ _ gg lS lX 0 _ _ _ _ (Or.inl ⟨rfl, rfl, rfl, rfl⟩) (own_Old_Inv hO) hX0 X5 e5 N5 K5 f89 f90 f91 f92 f93 Fw5 f94 f95 f96 f97 f6 f98 f99 f100
    | succ k ih =>
      intro i hi T locs hh gg hO X eT N KK fE fF fS fN fH fB fU fu fv fr_ fn_ fG fT fX
      have hnb4 := hO.2.2.1
      show OGo p e below _ (T.setTop (mkF m 3 #[.val (.ref a0), .val (.ref a1), .val (.int (Int32.ofNat cnt)), .val (.ref a3), .val (.ref a4), .val (.int (Int32.ofNat i)), .unset, .unset, .unset, .unset, .unset] []))
      refine OGo.by (fun _ k => XS.iload X.here hx rfl (hb hby d7_3) rfl k) ?_
      show OGo p e below _ (T.setTop (mkF m 5 #[.val (.ref a0), .val (.ref a1), .val (.int (Int32.ofNat cnt)), .val (.ref a3), .val (.ref a4), .val (.int (Int32.ofNat i)), .unset, .unset, .unset, .unset, .unset] [(.int (Int32.ofNat i))]))
      refine OGo.by (fun _ k => XS.aloadN X.here hx rfl (hb hby d7_5) rfl rfl k) ?_
      show OGo p e below _ (T.setTop (mkF m 6 #[.val (.ref a0), .val (.ref a1), .val (.int (Int32.ofNat cnt)), .val (.ref a3), .val (.ref a4), .val (.int (Int32.ofNat i)), .unset, .unset, .unset, .unset, .unset] [(.ref a0), (.int (Int32.ofNat i))]))
      obtain ⟨T101, X101, e101, st101⟩ := getF X hx hZ hown (host := "") (Or.inl (hw _ (List.mem_of_getElem? (i := 44) rfl))) Via.refl eT fB (g := (mkF m 6 #[.val (.ref a0), .val (.ref a1), .val (.int (Int32.ofNat cnt)), .val (.ref a3), .val (.ref a4), .val (.int (Int32.ofNat i)), .unset, .unset, .unset, .unset, .unset] [(.ref a0), (.int (Int32.ofNat i))])) rfl rfl (hb hby d7_6)
      refine OGo.by st101 ?_
      show OGo p e below _ (T101.setTop (mkF m 9 #[.val (.ref a0), .val (.ref a1), .val (.int (Int32.ofNat cnt)), .val (.ref a3), .val (.ref a4), .val (.int (Int32.ofNat i)), .unset, .unset, .unset, .unset, .unset] [(.int (Int32.ofNat nb)), (.int (Int32.ofNat i))]))
      refine OGo.by (fun _ k => XS.icmpNo X101.here hx rfl (hb hby d7_9) rfl (tlt (own_olt (by omega) (by omega))).2.1 k) ?_
      show OGo p e below _ (T101.setTop (mkF m 12 #[.val (.ref a0), .val (.ref a1), .val (.int (Int32.ofNat cnt)), .val (.ref a3), .val (.ref a4), .val (.int (Int32.ofNat i)), .unset, .unset, .unset, .unset, .unset] []))
      refine OGo.by (fun _ k => XS.aloadN X101.here hx rfl (hb hby d7_12) rfl rfl k) ?_
      show OGo p e below _ (T101.setTop (mkF m 13 #[.val (.ref a0), .val (.ref a1), .val (.int (Int32.ofNat cnt)), .val (.ref a3), .val (.ref a4), .val (.int (Int32.ofNat i)), .unset, .unset, .unset, .unset, .unset] [(.ref a0)]))
      obtain ⟨T102, X102, e102, st102⟩ := getF X101 hx hZ hown (host := "") (Or.inl (hw _ (List.mem_of_getElem? (i := 27) rfl))) Via.refl e101 fF (g := (mkF m 13 #[.val (.ref a0), .val (.ref a1), .val (.int (Int32.ofNat cnt)), .val (.ref a3), .val (.ref a4), .val (.int (Int32.ofNat i)), .unset, .unset, .unset, .unset, .unset] [(.ref a0)])) rfl rfl (hb hby d7_13)
      refine OGo.by st102 ?_
      show OGo p e below _ (T102.setTop (mkF m 16 #[.val (.ref a0), .val (.ref a1), .val (.int (Int32.ofNat cnt)), .val (.ref a3), .val (.ref a4), .val (.int (Int32.ofNat i)), .unset, .unset, .unset, .unset, .unset] [(.ref zf)]))
      refine OGo.by (fun _ k => XS.aloadN X102.here hx rfl (hb hby d7_16) rfl rfl k) ?_
      show OGo p e below _ (T102.setTop (mkF m 17 #[.val (.ref a0), .val (.ref a1), .val (.int (Int32.ofNat cnt)), .val (.ref a3), .val (.ref a4), .val (.int (Int32.ofNat i)), .unset, .unset, .unset, .unset, .unset] [(.ref a0), (.ref zf)]))
      obtain ⟨T103, X103, e103, st103⟩ := getF X102 hx hZ hown (host := "") (Or.inl (hw _ (List.mem_of_getElem? (i := 35) rfl))) Via.refl e102 fS (g := (mkF m 17 #[.val (.ref a0), .val (.ref a1), .val (.int (Int32.ofNat cnt)), .val (.ref a3), .val (.ref a4), .val (.int (Int32.ofNat i)), .unset, .unset, .unset, .unset, .unset] [(.ref a0), (.ref zf)])) rfl rfl (hb hby d7_17)
      refine OGo.by st103 ?_
      show OGo p e below _ (T103.setTop (mkF m 20 #[.val (.ref a0), .val (.ref a1), .val (.int (Int32.ofNat cnt)), .val (.ref a3), .val (.ref a4), .val (.int (Int32.ofNat i)), .unset, .unset, .unset, .unset, .unset] [(.ref zs), (.ref zf)]))
      refine OGo.by (fun _ k => XS.iload X103.here hx rfl (hb hby d7_20) rfl k) ?_
      show OGo p e below _ (T103.setTop (mkF m 22 #[.val (.ref a0), .val (.ref a1), .val (.int (Int32.ofNat cnt)), .val (.ref a3), .val (.ref a4), .val (.int (Int32.ofNat i)), .unset, .unset, .unset, .unset, .unset] [(.int (Int32.ofNat i)), (.ref zs), (.ref zf)]))
      obtain ⟨cl104, Ar104, q104, S104, M104, Hs104, G104⟩ := id fT
      have hin104 := inb_of (j := (Int32.ofNat i)) S104 (own_inC hcf (by omega))
      refine OGo.by (X103.iaload hx (j := (Int32.ofNat i)) (v := (.int (lS.getD ((Int32.ofNat i)).toNatClampNeg 0))) (by rw [e103]; exact Ar104.1) (State.isArrayOf_alike hZ.alike Ar104.2.1) Ar104.2.2 hin104 (Has.at Hs104 hin104 (own_getD _ _)) (g := (mkF m 22 #[.val (.ref a0), .val (.ref a1), .val (.int (Int32.ofNat cnt)), .val (.ref a3), .val (.ref a4), .val (.int (Int32.ofNat i)), .unset, .unset, .unset, .unset, .unset] [(.int (Int32.ofNat i)), (.ref zs), (.ref zf)])) rfl rfl (hb hby d7_22)) ?_
      obtain ⟨qj, hqj, eqj, hO'⟩ := own_Old_step hO hM16 (by omega : i < nb)
      rw [own_tn (by omega), eqj]
      show OGo p e below _ (T103.setTop (mkF m 23 #[.val (.ref a0), .val (.ref a1), .val (.int (Int32.ofNat cnt)), .val (.ref a3), .val (.ref a4), .val (.int (Int32.ofNat i)), .unset, .unset, .unset, .unset, .unset] [(.int (Int32.ofNat qj)), (.ref zf)]))
      refine OGo.by (fun _ k => XS.iconst X103.here hx rfl (hb hby d7_23) k) ?_
      show OGo p e below _ (T103.setTop (mkF m 24 #[.val (.ref a0), .val (.ref a1), .val (.int (Int32.ofNat cnt)), .val (.ref a3), .val (.ref a4), .val (.int (Int32.ofNat i)), .unset, .unset, .unset, .unset, .unset] [(.int (-1 : Int32)), (.int (Int32.ofNat qj)), (.ref zf)]))
      obtain ⟨cl105, Ar105, q105, S105, M105, Hs105, G105⟩ := id fG
      obtain ⟨T105, h105, X105, e105, W105, st105⟩ := stI X103 hx hZ e103 Ar105 (j := (Int32.ofNat qj)) (inb_of S105 (own_inM hcf hqj)) (g := (mkF m 24 #[.val (.ref a0), .val (.ref a1), .val (.int (Int32.ofNat cnt)), .val (.ref a3), .val (.ref a4), .val (.int (Int32.ofNat i)), .unset, .unset, .unset, .unset, .unset] [(.int (-1 : Int32)), (.int (Int32.ofNat qj)), (.ref zf)])) rfl rfl (hb hby d7_24)
      refine OGo.by st105 ?_
      have N105 := Fr.snoc X105 N g_zf
      have K105 : Keep h0 h105 [a0, zf, zs, zn] := (KK).wr W105 (Or.inl (List.mem_of_getElem? (i := 1) rfl))
      have V105 : Arv Z h105 zf kf .int ml ((gg.set ((Int32.ofNat qj)).toNatClampNeg (-1 : Int32)).map Value.int) (.int (0 : Int32)) := by rw [List.map_set]; exact Arv.set Ar105 q105 S105 M105 Hs105 G105 rfl W105 _ rfl (by rw [List.length_map]; exact (by have := own_tn (i := qj) (by omega); have := hO.1; omega))
      show OGo p e below _ (T105.setTop (mkF m 25 #[.val (.ref a0), .val (.ref a1), .val (.int (Int32.ofNat cnt)), .val (.ref a3), .val (.ref a4), .val (.int (Int32.ofNat i)), .unset, .unset, .unset, .unset, .unset] []))
      refine OGo.by (fun _ k => XS.iinc X105.here hx rfl (hb hby d7_25) rfl (l' := #[.val (.ref a0), .val (.ref a1), .val (.int (Int32.ofNat cnt)), .val (.ref a3), .val (.ref a4), .val (.int ((Int32.ofNat i) + (1 : Int32))), .unset, .unset, .unset, .unset, .unset]) rfl k) ?_
      show OGo p e below _ (T105.setTop (mkF m 28 #[.val (.ref a0), .val (.ref a1), .val (.int (Int32.ofNat cnt)), .val (.ref a3), .val (.ref a4), .val (.int ((Int32.ofNat i) + (1 : Int32))), .unset, .unset, .unset, .unset, .unset] []))
      refine OGo.by (fun _ k => XS.goto X105.here hx rfl (pc0 := 28) (pc' := 3) rfl (hb hby d7_28) (by decide) (by decide) k) ?_
      show OGo p e below _ (T105.setTop (mkF m 3 #[.val (.ref a0), .val (.ref a1), .val (.int (Int32.ofNat cnt)), .val (.ref a3), .val (.ref a4), .val (.int ((Int32.ofNat i) + (1 : Int32))), .unset, .unset, .unset, .unset, .unset] []))
      have f106 : Exa Z h105 a0 "com/example/faces_into_crowds/facesintocrowds/Buckets" := (fE.wr W105)
      have f107 : Fld Z h105 a0 "com/example/faces_into_crowds/facesintocrowds/Buckets" "mFirst" "[I" (.ref zf) := (fF.other W105 (Or.inl ne_a0_zf))
      have f108 : Fld Z h105 a0 "com/example/faces_into_crowds/facesintocrowds/Buckets" "mSlots" "[I" (.ref zs) := (fS.other W105 (Or.inl ne_a0_zf))
      have f109 : Fld Z h105 a0 "com/example/faces_into_crowds/facesintocrowds/Buckets" "mNext" "[I" (.ref zn) := (fN.other W105 (Or.inl ne_a0_zf))
      have f110 : Fld Z h105 a0 "com/example/faces_into_crowds/facesintocrowds/Buckets" "mShift" "I" (.int sh) := (fH.other W105 (Or.inl ne_a0_zf))
      have f111 : Fld Z h105 a0 "com/example/faces_into_crowds/facesintocrowds/Buckets" "mBuckets" "I" (.int (Int32.ofNat nb)) := (fB.other W105 (Or.inl ne_a0_zf))
      have f112 : Fld Z h105 a0 "com/example/faces_into_crowds/facesintocrowds/Buckets" "mUnits" "[I" wu := (fU.other W105 (Or.inl ne_a0_zf))
      have f113 : Arv Z h105 a1 ku .int (4 : Int32) (own_U.map Value.int) (.int (0 : Int32)) := (fu.other W105 (Ne.symm ne_zf_a1))
      have f114 : Arv Z h105 a3 kv .int (4 : Int32) (R1.map Value.int) (.int (0 : Int32)) := (fv.other W105 (Ne.symm ne_zf_a3))
      have f115 : Arv Z h105 zr kr .int (4 : Int32) (R2.map Value.int) (.int (0 : Int32)) := (fr_.other W105 (Ne.symm ne_zf_zr))
      have f116 : Arv Z h105 a4 kn (.array .int) (1 : Int32) [(.ref zr)] .null := (fn_.other W105 (Ne.symm ne_zf_a4))
      have f117 : Arv Z h105 zs ks .int cpI (lS.map Value.int) (.int (0 : Int32)) := (fT.other W105 (Ne.symm ne_zf_zs))
      have f118 : Arv Z h105 zn kx .int cpI (lX.map Value.int) (.int (0 : Int32)) := (fX.other W105 (Ne.symm ne_zf_zn))
      rw [own_up1 i]
      exact ih (i + 1) (by omega) _ _ _ (gg.set ((Int32.ofNat qj)).toNatClampNeg (-1 : Int32)) (by rw [own_tn (by omega)]; exact hO') X105 e105 N105 K105 f106 f107 f108 f109 f110 f111 f112 f113 f114 f115 f116 V105 f117 f118
  exact LA nb 0 (by omega) _ _ _ lF hO0 X0 e0 N0 (Keep.refl h0 [a0, zf, zs, zn]) E0 F_F F_S F_N F_H F_B F_U A_u A_v A_r A_n A_F A_S A_X
theorem d11_0 : decode method_2_code 0 = .ok (.iload_n 1, 1) := by decide +kernel
theorem d11_1 : decode method_2_code 1 = .ok (.iconst 1, 1) := by decide +kernel
theorem d11_2 : decode method_2_code 2 = .ok (.if_icmp .lt 14, 3) := by decide +kernel
theorem d11_16 : decode method_2_code 16 = .ok (.iload_n 1, 1) := by decide +kernel
theorem d11_17 : decode method_2_code 17 = .ok (.iconst 2, 1) := by decide +kernel
theorem d11_18 : decode method_2_code 18 = .ok (.if_icmp .lt 14, 3) := by decide +kernel
theorem d11_32 : decode method_2_code 32 = .ok (.iload_n 1, 1) := by decide +kernel
theorem d11_33 : decode method_2_code 33 = .ok (.iconst 3, 1) := by decide +kernel
theorem d11_34 : decode method_2_code 34 = .ok (.if_icmp .lt 14, 3) := by decide +kernel
theorem d11_48 : decode method_2_code 48 = .ok (.iconst 1, 1) := by decide +kernel
theorem d11_49 : decode method_2_code 49 = .ok (.ireturn, 1) := by decide +kernel
theorem own_pn11 : plainName "com/example/faces_into_crowds/facesintocrowds/BucketsFirstPinLaw" = true := by first | (simp [plainName, overriddenIn]; done) | decide +kernel
theorem ef_rm_fr0 (m : MethodId) (a0 : Addr) (cK : ClassId) (ka : Int32) (kb : Int32) (kc : Int32) (kd : Int32) : entryFrame m #[(.ref a0), (.int (0 : Int32))] 2 = mkF m 0 #[.val (.ref a0), .val (.int (0 : Int32))] [] := by first | (simp [entryFrame, mkF, argsToLocals, Value.category]; done) | rfl
def own_fr0 (ka : Int32) (kb : Int32) (kc : Int32) (kd : Int32) : Int32 := (1 : Int32)
def Q_rm_fr0 (Z : State) (a0 : Addr) (cK : ClassId) (ka : Int32) (kb : Int32) (kc : Int32) (kd : Int32) (h0 : Heap) (n0 : Nat) (v : Option Value) (h : Heap) (L : List Loc) : Prop := v = some (.int (own_fr0 ka kb kc kd)) ∧ Fr n0 L ∧ h = h0
set_option maxRecDepth 65536 in
set_option maxHeartbeats 40000000 in
theorem rm_fr0 (l : Launch) (Z : State) (av0 : Array Value) (hw : ∀ d ∈ tables_1, d.before av0 Z = true) (ws : List Jvm.Cond) (a0 : Addr) (cK : ClassId) (ka : Int32) (kb : Int32) (kc : Int32) (kd : Int32) (h0 : Heap) (n0 : Nat) (Z0 : n0 ≤ h0.size) (A0 : Arv Z h0 a0 cK .int (4 : Int32) [(.int ka), (.int kb), (.int kc), (.int kd)] (.int (0 : Int32))) :
    MetFree l (⟨"com/example/faces_into_crowds/facesintocrowds/BucketsFirstPinLaw", "fresh", "([II)Z"⟩ : MethodName) (head1 (Jvm.Cond.code (⟨"com/example/faces_into_crowds/facesintocrowds/BucketsFirstPinLaw", "fresh", "([II)Z"⟩ : MethodName) method_2_code 2 (some .boolean) :: ws) ({ frames := 0, cells := 0, slots := 0, locals := 0 } : Room)) (fun a U => a = #[(.ref a0), (.int (0 : Int32))] ∧ Z.Warmed39 U.vm ∧ U.heap = h0) (fun _ _ _ _ _ => True) (fun _ U o U' => ∃ v L, o = .returned v ∧ Q_rm_fr0 Z a0 cK ka kb kc kd h0 n0 v U'.heap L ∧ FrameEnd U o U' L ({ frames := 0, cells := 0, slots := 0, locals := 0 } : Room).cells ({ frames := 0, cells := 0, slots := 0, locals := 0 } : Room).slots) := by
  refine MetFree.of_bodySF (plainFor_of_name own_pn11) hisR ?_
  intro p e s m args below meth c s₁ Bd hml0 hP hK
  obtain ⟨rfl, hZ, hh⟩ := hP
  have hx := Bd.exec
  have hby := Bd.bytes
  have hml : c.maxLocals = 2 := hml0
  have hown : s.vm.findClass "com/example/faces_into_crowds/facesintocrowds/BucketsFirstPinLaw" = some m.cls := findClass_of_methodNamed Bd.named
  have hnm := (name_of_methodNamed Bd.named Bd.method).1
  have X0 : Stand p l e ({ frames := 0, cells := 0, slots := 0, locals := 0 } : Room) s m #[(.ref a0), (.int (0 : Int32))] below meth c s₁ [] 0 0 := Stand.of_body Bd
  have e0 : s₁.heap = h0 := by rw [← hh, Bd.state]; rfl
  have N0 := Fr.nil n0
  refine OGo.by (P := fun U' o => ∃ v L, o = .returned v ∧ Q_rm_fr0 Z a0 cK ka kb kc kd h0 n0 v U'.heap L ∧ FrameEnd s o U' L ({ frames := 0, cells := 0, slots := 0, locals := 0 } : Room).cells ({ frames := 0, cells := 0, slots := 0, locals := 0 } : Room).slots) (fun T_ k_ => castTop (ef_rm_fr0 m a0 cK ka kb kc kd) k_) ?_
  show OGo p e below _ (s₁.setTop (mkF m 0 #[.val (.ref a0), .val (.int (0 : Int32))] []))
  refine OGo.by (fun _ k => XS.iloadN X0.here hx rfl (hb hby d11_0) rfl k) ?_
  show OGo p e below _ (s₁.setTop (mkF m 1 #[.val (.ref a0), .val (.int (0 : Int32))] [(.int (0 : Int32))]))
  refine OGo.by (fun _ k => XS.iconst X0.here hx rfl (hb hby d11_1) k) ?_
  show OGo p e below _ (s₁.setTop (mkF m 2 #[.val (.ref a0), .val (.int (0 : Int32))] [(.int (1 : Int32)), (.int (0 : Int32))]))
  refine OGo.by (fun _ k => XS.icmpYes X0.here hx rfl (pc0 := 2) (pc' := 16) rfl (hb hby d11_2) rfl (tlt (by decide : (0 : Int32) < (1 : Int32))).1 (by decide) (by decide) k) ?_
  show OGo p e below _ (s₁.setTop (mkF m 16 #[.val (.ref a0), .val (.int (0 : Int32))] []))
  refine OGo.by (fun _ k => XS.iloadN X0.here hx rfl (hb hby d11_16) rfl k) ?_
  show OGo p e below _ (s₁.setTop (mkF m 17 #[.val (.ref a0), .val (.int (0 : Int32))] [(.int (0 : Int32))]))
  refine OGo.by (fun _ k => XS.iconst X0.here hx rfl (hb hby d11_17) k) ?_
  show OGo p e below _ (s₁.setTop (mkF m 18 #[.val (.ref a0), .val (.int (0 : Int32))] [(.int (2 : Int32)), (.int (0 : Int32))]))
  refine OGo.by (fun _ k => XS.icmpYes X0.here hx rfl (pc0 := 18) (pc' := 32) rfl (hb hby d11_18) rfl (tlt (by decide : (0 : Int32) < (2 : Int32))).1 (by decide) (by decide) k) ?_
  show OGo p e below _ (s₁.setTop (mkF m 32 #[.val (.ref a0), .val (.int (0 : Int32))] []))
  refine OGo.by (fun _ k => XS.iloadN X0.here hx rfl (hb hby d11_32) rfl k) ?_
  show OGo p e below _ (s₁.setTop (mkF m 33 #[.val (.ref a0), .val (.int (0 : Int32))] [(.int (0 : Int32))]))
  refine OGo.by (fun _ k => XS.iconst X0.here hx rfl (hb hby d11_33) k) ?_
  show OGo p e below _ (s₁.setTop (mkF m 34 #[.val (.ref a0), .val (.int (0 : Int32))] [(.int (3 : Int32)), (.int (0 : Int32))]))
  refine OGo.by (fun _ k => XS.icmpYes X0.here hx rfl (pc0 := 34) (pc' := 48) rfl (hb hby d11_34) rfl (tlt (by decide : (0 : Int32) < (3 : Int32))).1 (by decide) (by decide) k) ?_
  show OGo p e below _ (s₁.setTop (mkF m 48 #[.val (.ref a0), .val (.int (0 : Int32))] []))
  refine OGo.by (fun _ k => XS.iconst X0.here hx rfl (hb hby d11_48) k) ?_
  show OGo p e below _ (s₁.setTop (mkF m 49 #[.val (.ref a0), .val (.int (0 : Int32))] [(.int (1 : Int32))]))
  obtain ⟨fs, hr, hrun, hended, hW, hsame⟩ := X0.leave (v := some (.int (1 : Int32))) (fun h => by rw [Bd.returns] at h; cases h)
  refine OGo.ret (retN X0 hx (t := .boolean) Bd.returns (by simp) (hb hby d11_49) hr) hrun hended ⟨_, _, rfl, ?_, ⟨_, rfl⟩, hW, hsame.mono (by decide) (by decide)⟩
  show Q_rm_fr0 Z a0 cK ka kb kc kd h0 n0 _ s₁.heap _
  rw [e0]
  exact ⟨congrArg (fun z => some (Value.int z)) (by rfl), N0, rfl⟩
theorem d11_5 : decode method_2_code 5 = .ok (.aload_n 0, 1) := by decide +kernel
theorem d11_6 : decode method_2_code 6 = .ok (.iconst 0, 1) := by decide +kernel
theorem d11_7 : decode method_2_code 7 = .ok (.iaload, 1) := by decide +kernel
theorem d11_8 : decode method_2_code 8 = .ok (.aload_n 0, 1) := by decide +kernel
theorem d11_9 : decode method_2_code 9 = .ok (.iload_n 1, 1) := by decide +kernel
theorem d11_10 : decode method_2_code 10 = .ok (.iaload, 1) := by decide +kernel
theorem d11_11 : decode method_2_code 11 = .ok (.if_icmp .ne 5, 3) := by decide +kernel
theorem d11_14 : decode method_2_code 14 = .ok (.iconst 0, 1) := by decide +kernel
theorem d11_15 : decode method_2_code 15 = .ok (.ireturn, 1) := by decide +kernel
theorem ef_rm_fr1 (m : MethodId) (a0 : Addr) (cK : ClassId) (ka : Int32) (kb : Int32) (kc : Int32) (kd : Int32) : entryFrame m #[(.ref a0), (.int (1 : Int32))] 2 = mkF m 0 #[.val (.ref a0), .val (.int (1 : Int32))] [] := by first | (simp [entryFrame, mkF, argsToLocals, Value.category]; done) | rfl
def own_fr1 (ka : Int32) (kb : Int32) (kc : Int32) (kd : Int32) : Int32 := (if ka = kb then (0 : Int32) else (1 : Int32))
def Q_rm_fr1 (Z : State) (a0 : Addr) (cK : ClassId) (ka : Int32) (kb : Int32) (kc : Int32) (kd : Int32) (h0 : Heap) (n0 : Nat) (v : Option Value) (h : Heap) (L : List Loc) : Prop := v = some (.int (own_fr1 ka kb kc kd)) ∧ Fr n0 L ∧ h = h0
set_option maxRecDepth 65536 in
set_option maxHeartbeats 40000000 in
theorem rm_fr1 (l : Launch) (Z : State) (av0 : Array Value) (hw : ∀ d ∈ tables_1, d.before av0 Z = true) (ws : List Jvm.Cond) (a0 : Addr) (cK : ClassId) (ka : Int32) (kb : Int32) (kc : Int32) (kd : Int32) (h0 : Heap) (n0 : Nat) (Z0 : n0 ≤ h0.size) (A0 : Arv Z h0 a0 cK .int (4 : Int32) [(.int ka), (.int kb), (.int kc), (.int kd)] (.int (0 : Int32))) :
    MetFree l (⟨"com/example/faces_into_crowds/facesintocrowds/BucketsFirstPinLaw", "fresh", "([II)Z"⟩ : MethodName) (head1 (Jvm.Cond.code (⟨"com/example/faces_into_crowds/facesintocrowds/BucketsFirstPinLaw", "fresh", "([II)Z"⟩ : MethodName) method_2_code 2 (some .boolean) :: ws) ({ frames := 0, cells := 0, slots := 0, locals := 0 } : Room)) (fun a U => a = #[(.ref a0), (.int (1 : Int32))] ∧ Z.Warmed39 U.vm ∧ U.heap = h0) (fun _ _ _ _ _ => True) (fun _ U o U' => ∃ v L, o = .returned v ∧ Q_rm_fr1 Z a0 cK ka kb kc kd h0 n0 v U'.heap L ∧ FrameEnd U o U' L ({ frames := 0, cells := 0, slots := 0, locals := 0 } : Room).cells ({ frames := 0, cells := 0, slots := 0, locals := 0 } : Room).slots) := by
  refine MetFree.of_bodySF (plainFor_of_name own_pn11) hisR ?_
  intro p e s m args below meth c s₁ Bd hml0 hP hK
  obtain ⟨rfl, hZ, hh⟩ := hP
  have hx := Bd.exec
  have hby := Bd.bytes
  have hml : c.maxLocals = 2 := hml0
  have hown : s.vm.findClass "com/example/faces_into_crowds/facesintocrowds/BucketsFirstPinLaw" = some m.cls := findClass_of_methodNamed Bd.named
  have hnm := (name_of_methodNamed Bd.named Bd.method).1
  have X0 : Stand p l e ({ frames := 0, cells := 0, slots := 0, locals := 0 } : Room) s m #[(.ref a0), (.int (1 : Int32))] below meth c s₁ [] 0 0 := Stand.of_body Bd
  have e0 : s₁.heap = h0 := by rw [← hh, Bd.state]; rfl
  have N0 := Fr.nil n0
  refine OGo.by (P := fun U' o => ∃ v L, o = .returned v ∧ Q_rm_fr1 Z a0 cK ka kb kc kd h0 n0 v U'.heap L ∧ FrameEnd s o U' L ({ frames := 0, cells := 0, slots := 0, locals := 0 } : Room).cells ({ frames := 0, cells := 0, slots := 0, locals := 0 } : Room).slots) (fun T_ k_ => castTop (ef_rm_fr1 m a0 cK ka kb kc kd) k_) ?_
  show OGo p e below _ (s₁.setTop (mkF m 0 #[.val (.ref a0), .val (.int (1 : Int32))] []))
  refine OGo.by (fun _ k => XS.iloadN X0.here hx rfl (hb hby d11_0) rfl k) ?_
  show OGo p e below _ (s₁.setTop (mkF m 1 #[.val (.ref a0), .val (.int (1 : Int32))] [(.int (1 : Int32))]))
  refine OGo.by (fun _ k => XS.iconst X0.here hx rfl (hb hby d11_1) k) ?_
  show OGo p e below _ (s₁.setTop (mkF m 2 #[.val (.ref a0), .val (.int (1 : Int32))] [(.int (1 : Int32)), (.int (1 : Int32))]))
  refine OGo.by (fun _ k => XS.icmpNo X0.here hx rfl (hb hby d11_2) rfl (flt (by decide : ¬ ((1 : Int32) < (1 : Int32)))).1 k) ?_
  show OGo p e below _ (s₁.setTop (mkF m 5 #[.val (.ref a0), .val (.int (1 : Int32))] []))
  refine OGo.by (fun _ k => XS.aloadN X0.here hx rfl (hb hby d11_5) rfl rfl k) ?_
  show OGo p e below _ (s₁.setTop (mkF m 6 #[.val (.ref a0), .val (.int (1 : Int32))] [(.ref a0)]))
  refine OGo.by (fun _ k => XS.iconst X0.here hx rfl (hb hby d11_6) k) ?_
  show OGo p e below _ (s₁.setTop (mkF m 7 #[.val (.ref a0), .val (.int (1 : Int32))] [(.int (0 : Int32)), (.ref a0)]))
  obtain ⟨cl1, Ar1, q1, S1, M1, Hs1, G1⟩ := id A0
  have hin1 := inb_of (j := (0 : Int32)) S1 ⟨(by decide), (by decide)⟩
  refine OGo.by (X0.iaload hx (j := (0 : Int32)) (v := (.int ka)) (by rw [e0]; exact Ar1.1) (State.isArrayOf_alike hZ.alike Ar1.2.1) Ar1.2.2 hin1 (Has.at Hs1 hin1 rfl) (g := (mkF m 7 #[.val (.ref a0), .val (.int (1 : Int32))] [(.int (0 : Int32)), (.ref a0)])) rfl rfl (hb hby d11_7)) ?_
  show OGo p e below _ (s₁.setTop (mkF m 8 #[.val (.ref a0), .val (.int (1 : Int32))] [(.int ka)]))
  refine OGo.by (fun _ k => XS.aloadN X0.here hx rfl (hb hby d11_8) rfl rfl k) ?_
  show OGo p e below _ (s₁.setTop (mkF m 9 #[.val (.ref a0), .val (.int (1 : Int32))] [(.ref a0), (.int ka)]))
  refine OGo.by (fun _ k => XS.iloadN X0.here hx rfl (hb hby d11_9) rfl k) ?_
  show OGo p e below _ (s₁.setTop (mkF m 10 #[.val (.ref a0), .val (.int (1 : Int32))] [(.int (1 : Int32)), (.ref a0), (.int ka)]))
  obtain ⟨cl2, Ar2, q2, S2, M2, Hs2, G2⟩ := id A0
  have hin2 := inb_of (j := (1 : Int32)) S2 ⟨(by decide), (by decide)⟩
  refine OGo.by (X0.iaload hx (j := (1 : Int32)) (v := (.int kb)) (by rw [e0]; exact Ar2.1) (State.isArrayOf_alike hZ.alike Ar2.2.1) Ar2.2.2 hin2 (Has.at Hs2 hin2 rfl) (g := (mkF m 10 #[.val (.ref a0), .val (.int (1 : Int32))] [(.int (1 : Int32)), (.ref a0), (.int ka)])) rfl rfl (hb hby d11_10)) ?_
  show OGo p e below _ (s₁.setTop (mkF m 11 #[.val (.ref a0), .val (.int (1 : Int32))] [(.int kb), (.int ka)]))
  by_cases hc11_3 : ka = kb
  · refine OGo.by (fun _ k => XS.icmpNo X0.here hx rfl (hb hby d11_11) rfl (teq hc11_3).2 k) ?_
    show OGo p e below _ (s₁.setTop (mkF m 14 #[.val (.ref a0), .val (.int (1 : Int32))] []))
    refine OGo.by (fun _ k => XS.iconst X0.here hx rfl (hb hby d11_14) k) ?_
    show OGo p e below _ (s₁.setTop (mkF m 15 #[.val (.ref a0), .val (.int (1 : Int32))] [(.int (0 : Int32))]))
    obtain ⟨fs, hr, hrun, hended, hW, hsame⟩ := X0.leave (v := some (.int (0 : Int32))) (fun h => by rw [Bd.returns] at h; cases h)
    refine OGo.ret (retN X0 hx (t := .boolean) Bd.returns (by simp) (hb hby d11_15) hr) hrun hended ⟨_, _, rfl, ?_, ⟨_, rfl⟩, hW, hsame.mono (by decide) (by decide)⟩
    show Q_rm_fr1 Z a0 cK ka kb kc kd h0 n0 _ s₁.heap _
    rw [e0]
    exact ⟨congrArg (fun z => some (Value.int z)) (by show _ = (own_fr1 ka kb kc kd); unfold own_fr1; rw [if_pos hc11_3]), N0, rfl⟩
  · refine OGo.by (fun _ k => XS.icmpYes X0.here hx rfl (pc0 := 11) (pc' := 16) rfl (hb hby d11_11) rfl (feq hc11_3).2 (by decide) (by decide) k) ?_
    show OGo p e below _ (s₁.setTop (mkF m 16 #[.val (.ref a0), .val (.int (1 : Int32))] []))
    refine OGo.by (fun _ k => XS.iloadN X0.here hx rfl (hb hby d11_16) rfl k) ?_
    show OGo p e below _ (s₁.setTop (mkF m 17 #[.val (.ref a0), .val (.int (1 : Int32))] [(.int (1 : Int32))]))
    refine OGo.by (fun _ k => XS.iconst X0.here hx rfl (hb hby d11_17) k) ?_
    show OGo p e below _ (s₁.setTop (mkF m 18 #[.val (.ref a0), .val (.int (1 : Int32))] [(.int (2 : Int32)), (.int (1 : Int32))]))
    refine OGo.by (fun _ k => XS.icmpYes X0.here hx rfl (pc0 := 18) (pc' := 32) rfl (hb hby d11_18) rfl (tlt (by decide : (1 : Int32) < (2 : Int32))).1 (by decide) (by decide) k) ?_
    show OGo p e below _ (s₁.setTop (mkF m 32 #[.val (.ref a0), .val (.int (1 : Int32))] []))
    refine OGo.by (fun _ k => XS.iloadN X0.here hx rfl (hb hby d11_32) rfl k) ?_
    show OGo p e below _ (s₁.setTop (mkF m 33 #[.val (.ref a0), .val (.int (1 : Int32))] [(.int (1 : Int32))]))
    refine OGo.by (fun _ k => XS.iconst X0.here hx rfl (hb hby d11_33) k) ?_
    show OGo p e below _ (s₁.setTop (mkF m 34 #[.val (.ref a0), .val (.int (1 : Int32))] [(.int (3 : Int32)), (.int (1 : Int32))]))
    refine OGo.by (fun _ k => XS.icmpYes X0.here hx rfl (pc0 := 34) (pc' := 48) rfl (hb hby d11_34) rfl (tlt (by decide : (1 : Int32) < (3 : Int32))).1 (by decide) (by decide) k) ?_
    show OGo p e below _ (s₁.setTop (mkF m 48 #[.val (.ref a0), .val (.int (1 : Int32))] []))
    refine OGo.by (fun _ k => XS.iconst X0.here hx rfl (hb hby d11_48) k) ?_
    show OGo p e below _ (s₁.setTop (mkF m 49 #[.val (.ref a0), .val (.int (1 : Int32))] [(.int (1 : Int32))]))
    obtain ⟨fs, hr, hrun, hended, hW, hsame⟩ := X0.leave (v := some (.int (1 : Int32))) (fun h => by rw [Bd.returns] at h; cases h)
    refine OGo.ret (retN X0 hx (t := .boolean) Bd.returns (by simp) (hb hby d11_49) hr) hrun hended ⟨_, _, rfl, ?_, ⟨_, rfl⟩, hW, hsame.mono (by decide) (by decide)⟩
    show Q_rm_fr1 Z a0 cK ka kb kc kd h0 n0 _ s₁.heap _
    rw [e0]
    exact ⟨congrArg (fun z => some (Value.int z)) (by show _ = (own_fr1 ka kb kc kd); unfold own_fr1; rw [if_neg hc11_3]), N0, rfl⟩
theorem d11_21 : decode method_2_code 21 = .ok (.aload_n 0, 1) := by decide +kernel
theorem d11_22 : decode method_2_code 22 = .ok (.iconst 1, 1) := by decide +kernel
theorem d11_23 : decode method_2_code 23 = .ok (.iaload, 1) := by decide +kernel
theorem d11_24 : decode method_2_code 24 = .ok (.aload_n 0, 1) := by decide +kernel
theorem d11_25 : decode method_2_code 25 = .ok (.iload_n 1, 1) := by decide +kernel
theorem d11_26 : decode method_2_code 26 = .ok (.iaload, 1) := by decide +kernel
theorem d11_27 : decode method_2_code 27 = .ok (.if_icmp .ne 5, 3) := by decide +kernel
theorem d11_30 : decode method_2_code 30 = .ok (.iconst 0, 1) := by decide +kernel
theorem d11_31 : decode method_2_code 31 = .ok (.ireturn, 1) := by decide +kernel
theorem ef_rm_fr2 (m : MethodId) (a0 : Addr) (cK : ClassId) (ka : Int32) (kb : Int32) (kc : Int32) (kd : Int32) : entryFrame m #[(.ref a0), (.int (2 : Int32))] 2 = mkF m 0 #[.val (.ref a0), .val (.int (2 : Int32))] [] := by first | (simp [entryFrame, mkF, argsToLocals, Value.category]; done) | rfl
def own_fr2 (ka : Int32) (kb : Int32) (kc : Int32) (kd : Int32) : Int32 := (if ka = kc then (0 : Int32) else (if kb = kc then (0 : Int32) else (1 : Int32)))
def Q_rm_fr2 (Z : State) (a0 : Addr) (cK : ClassId) (ka : Int32) (kb : Int32) (kc : Int32) (kd : Int32) (h0 : Heap) (n0 : Nat) (v : Option Value) (h : Heap) (L : List Loc) : Prop := v = some (.int (own_fr2 ka kb kc kd)) ∧ Fr n0 L ∧ h = h0
set_option maxRecDepth 65536 in
set_option maxHeartbeats 40000000 in
theorem rm_fr2 (l : Launch) (Z : State) (av0 : Array Value) (hw : ∀ d ∈ tables_1, d.before av0 Z = true) (ws : List Jvm.Cond) (a0 : Addr) (cK : ClassId) (ka : Int32) (kb : Int32) (kc : Int32) (kd : Int32) (h0 : Heap) (n0 : Nat) (Z0 : n0 ≤ h0.size) (A0 : Arv Z h0 a0 cK .int (4 : Int32) [(.int ka), (.int kb), (.int kc), (.int kd)] (.int (0 : Int32))) :
    MetFree l (⟨"com/example/faces_into_crowds/facesintocrowds/BucketsFirstPinLaw", "fresh", "([II)Z"⟩ : MethodName) (head1 (Jvm.Cond.code (⟨"com/example/faces_into_crowds/facesintocrowds/BucketsFirstPinLaw", "fresh", "([II)Z"⟩ : MethodName) method_2_code 2 (some .boolean) :: ws) ({ frames := 0, cells := 0, slots := 0, locals := 0 } : Room)) (fun a U => a = #[(.ref a0), (.int (2 : Int32))] ∧ Z.Warmed39 U.vm ∧ U.heap = h0) (fun _ _ _ _ _ => True) (fun _ U o U' => ∃ v L, o = .returned v ∧ Q_rm_fr2 Z a0 cK ka kb kc kd h0 n0 v U'.heap L ∧ FrameEnd U o U' L ({ frames := 0, cells := 0, slots := 0, locals := 0 } : Room).cells ({ frames := 0, cells := 0, slots := 0, locals := 0 } : Room).slots) := by
  refine MetFree.of_bodySF (plainFor_of_name own_pn11) hisR ?_
  intro p e s m args below meth c s₁ Bd hml0 hP hK
  obtain ⟨rfl, hZ, hh⟩ := hP
  have hx := Bd.exec
  have hby := Bd.bytes
  have hml : c.maxLocals = 2 := hml0
  have hown : s.vm.findClass "com/example/faces_into_crowds/facesintocrowds/BucketsFirstPinLaw" = some m.cls := findClass_of_methodNamed Bd.named
  have hnm := (name_of_methodNamed Bd.named Bd.method).1
  have X0 : Stand p l e ({ frames := 0, cells := 0, slots := 0, locals := 0 } : Room) s m #[(.ref a0), (.int (2 : Int32))] below meth c s₁ [] 0 0 := Stand.of_body Bd
  have e0 : s₁.heap = h0 := by rw [← hh, Bd.state]; rfl
  have N0 := Fr.nil n0
  refine OGo.by (P := fun U' o => ∃ v L, o = .returned v ∧ Q_rm_fr2 Z a0 cK ka kb kc kd h0 n0 v U'.heap L ∧ FrameEnd s o U' L ({ frames := 0, cells := 0, slots := 0, locals := 0 } : Room).cells ({ frames := 0, cells := 0, slots := 0, locals := 0 } : Room).slots) (fun T_ k_ => castTop (ef_rm_fr2 m a0 cK ka kb kc kd) k_) ?_
  show OGo p e below _ (s₁.setTop (mkF m 0 #[.val (.ref a0), .val (.int (2 : Int32))] []))
  refine OGo.by (fun _ k => XS.iloadN X0.here hx rfl (hb hby d11_0) rfl k) ?_
  show OGo p e below _ (s₁.setTop (mkF m 1 #[.val (.ref a0), .val (.int (2 : Int32))] [(.int (2 : Int32))]))
  refine OGo.by (fun _ k => XS.iconst X0.here hx rfl (hb hby d11_1) k) ?_
  show OGo p e below _ (s₁.setTop (mkF m 2 #[.val (.ref a0), .val (.int (2 : Int32))] [(.int (1 : Int32)), (.int (2 : Int32))]))
  refine OGo.by (fun _ k => XS.icmpNo X0.here hx rfl (hb hby d11_2) rfl (flt (by decide : ¬ ((2 : Int32) < (1 : Int32)))).1 k) ?_
  show OGo p e below _ (s₁.setTop (mkF m 5 #[.val (.ref a0), .val (.int (2 : Int32))] []))
  refine OGo.by (fun _ k => XS.aloadN X0.here hx rfl (hb hby d11_5) rfl rfl k) ?_
  show OGo p e below _ (s₁.setTop (mkF m 6 #[.val (.ref a0), .val (.int (2 : Int32))] [(.ref a0)]))
  refine OGo.by (fun _ k => XS.iconst X0.here hx rfl (hb hby d11_6) k) ?_
  show OGo p e below _ (s₁.setTop (mkF m 7 #[.val (.ref a0), .val (.int (2 : Int32))] [(.int (0 : Int32)), (.ref a0)]))
  obtain ⟨cl1, Ar1, q1, S1, M1, Hs1, G1⟩ := id A0
  have hin1 := inb_of (j := (0 : Int32)) S1 ⟨(by decide), (by decide)⟩
  refine OGo.by (X0.iaload hx (j := (0 : Int32)) (v := (.int ka)) (by rw [e0]; exact Ar1.1) (State.isArrayOf_alike hZ.alike Ar1.2.1) Ar1.2.2 hin1 (Has.at Hs1 hin1 rfl) (g := (mkF m 7 #[.val (.ref a0), .val (.int (2 : Int32))] [(.int (0 : Int32)), (.ref a0)])) rfl rfl (hb hby d11_7)) ?_
  show OGo p e below _ (s₁.setTop (mkF m 8 #[.val (.ref a0), .val (.int (2 : Int32))] [(.int ka)]))
  refine OGo.by (fun _ k => XS.aloadN X0.here hx rfl (hb hby d11_8) rfl rfl k) ?_
  show OGo p e below _ (s₁.setTop (mkF m 9 #[.val (.ref a0), .val (.int (2 : Int32))] [(.ref a0), (.int ka)]))
  refine OGo.by (fun _ k => XS.iloadN X0.here hx rfl (hb hby d11_9) rfl k) ?_
  show OGo p e below _ (s₁.setTop (mkF m 10 #[.val (.ref a0), .val (.int (2 : Int32))] [(.int (2 : Int32)), (.ref a0), (.int ka)]))
  obtain ⟨cl2, Ar2, q2, S2, M2, Hs2, G2⟩ := id A0
  have hin2 := inb_of (j := (2 : Int32)) S2 ⟨(by decide), (by decide)⟩
  refine OGo.by (X0.iaload hx (j := (2 : Int32)) (v := (.int kc)) (by rw [e0]; exact Ar2.1) (State.isArrayOf_alike hZ.alike Ar2.2.1) Ar2.2.2 hin2 (Has.at Hs2 hin2 rfl) (g := (mkF m 10 #[.val (.ref a0), .val (.int (2 : Int32))] [(.int (2 : Int32)), (.ref a0), (.int ka)])) rfl rfl (hb hby d11_10)) ?_
  show OGo p e below _ (s₁.setTop (mkF m 11 #[.val (.ref a0), .val (.int (2 : Int32))] [(.int kc), (.int ka)]))
  by_cases hc11_3 : ka = kc
  · refine OGo.by (fun _ k => XS.icmpNo X0.here hx rfl (hb hby d11_11) rfl (teq hc11_3).2 k) ?_
    show OGo p e below _ (s₁.setTop (mkF m 14 #[.val (.ref a0), .val (.int (2 : Int32))] []))
    refine OGo.by (fun _ k => XS.iconst X0.here hx rfl (hb hby d11_14) k) ?_
    show OGo p e below _ (s₁.setTop (mkF m 15 #[.val (.ref a0), .val (.int (2 : Int32))] [(.int (0 : Int32))]))
    obtain ⟨fs, hr, hrun, hended, hW, hsame⟩ := X0.leave (v := some (.int (0 : Int32))) (fun h => by rw [Bd.returns] at h; cases h)
    refine OGo.ret (retN X0 hx (t := .boolean) Bd.returns (by simp) (hb hby d11_15) hr) hrun hended ⟨_, _, rfl, ?_, ⟨_, rfl⟩, hW, hsame.mono (by decide) (by decide)⟩
    show Q_rm_fr2 Z a0 cK ka kb kc kd h0 n0 _ s₁.heap _
    rw [e0]
    exact ⟨congrArg (fun z => some (Value.int z)) (by show _ = (own_fr2 ka kb kc kd); unfold own_fr2; rw [if_pos hc11_3]), N0, rfl⟩
  · refine OGo.by (fun _ k => XS.icmpYes X0.here hx rfl (pc0 := 11) (pc' := 16) rfl (hb hby d11_11) rfl (feq hc11_3).2 (by decide) (by decide) k) ?_
    show OGo p e below _ (s₁.setTop (mkF m 16 #[.val (.ref a0), .val (.int (2 : Int32))] []))
    refine OGo.by (fun _ k => XS.iloadN X0.here hx rfl (hb hby d11_16) rfl k) ?_
    show OGo p e below _ (s₁.setTop (mkF m 17 #[.val (.ref a0), .val (.int (2 : Int32))] [(.int (2 : Int32))]))
    refine OGo.by (fun _ k => XS.iconst X0.here hx rfl (hb hby d11_17) k) ?_
    show OGo p e below _ (s₁.setTop (mkF m 18 #[.val (.ref a0), .val (.int (2 : Int32))] [(.int (2 : Int32)), (.int (2 : Int32))]))
    refine OGo.by (fun _ k => XS.icmpNo X0.here hx rfl (hb hby d11_18) rfl (flt (by decide : ¬ ((2 : Int32) < (2 : Int32)))).1 k) ?_
    show OGo p e below _ (s₁.setTop (mkF m 21 #[.val (.ref a0), .val (.int (2 : Int32))] []))
    refine OGo.by (fun _ k => XS.aloadN X0.here hx rfl (hb hby d11_21) rfl rfl k) ?_
    show OGo p e below _ (s₁.setTop (mkF m 22 #[.val (.ref a0), .val (.int (2 : Int32))] [(.ref a0)]))
    refine OGo.by (fun _ k => XS.iconst X0.here hx rfl (hb hby d11_22) k) ?_
    show OGo p e below _ (s₁.setTop (mkF m 23 #[.val (.ref a0), .val (.int (2 : Int32))] [(.int (1 : Int32)), (.ref a0)]))
    obtain ⟨cl4, Ar4, q4, S4, M4, Hs4, G4⟩ := id A0
    have hin4 := inb_of (j := (1 : Int32)) S4 ⟨(by decide), (by decide)⟩
    refine OGo.by (X0.iaload hx (j := (1 : Int32)) (v := (.int kb)) (by rw [e0]; exact Ar4.1) (State.isArrayOf_alike hZ.alike Ar4.2.1) Ar4.2.2 hin4 (Has.at Hs4 hin4 rfl) (g := (mkF m 23 #[.val (.ref a0), .val (.int (2 : Int32))] [(.int (1 : Int32)), (.ref a0)])) rfl rfl (hb hby d11_23)) ?_
    show OGo p e below _ (s₁.setTop (mkF m 24 #[.val (.ref a0), .val (.int (2 : Int32))] [(.int kb)]))
    refine OGo.by (fun _ k => XS.aloadN X0.here hx rfl (hb hby d11_24) rfl rfl k) ?_
    show OGo p e below _ (s₁.setTop (mkF m 25 #[.val (.ref a0), .val (.int (2 : Int32))] [(.ref a0), (.int kb)]))
    refine OGo.by (fun _ k => XS.iloadN X0.here hx rfl (hb hby d11_25) rfl k) ?_
    show OGo p e below _ (s₁.setTop (mkF m 26 #[.val (.ref a0), .val (.int (2 : Int32))] [(.int (2 : Int32)), (.ref a0), (.int kb)]))
    obtain ⟨cl5, Ar5, q5, S5, M5, Hs5, G5⟩ := id A0
    have hin5 := inb_of (j := (2 : Int32)) S5 ⟨(by decide), (by decide)⟩
    refine OGo.by (X0.iaload hx (j := (2 : Int32)) (v := (.int kc)) (by rw [e0]; exact Ar5.1) (State.isArrayOf_alike hZ.alike Ar5.2.1) Ar5.2.2 hin5 (Has.at Hs5 hin5 rfl) (g := (mkF m 26 #[.val (.ref a0), .val (.int (2 : Int32))] [(.int (2 : Int32)), (.ref a0), (.int kb)])) rfl rfl (hb hby d11_26)) ?_
    show OGo p e below _ (s₁.setTop (mkF m 27 #[.val (.ref a0), .val (.int (2 : Int32))] [(.int kc), (.int kb)]))
    by_cases hc27_6 : kb = kc
    · refine OGo.by (fun _ k => XS.icmpNo X0.here hx rfl (hb hby d11_27) rfl (teq hc27_6).2 k) ?_
      show OGo p e below _ (s₁.setTop (mkF m 30 #[.val (.ref a0), .val (.int (2 : Int32))] []))
      refine OGo.by (fun _ k => XS.iconst X0.here hx rfl (hb hby d11_30) k) ?_
      show OGo p e below _ (s₁.setTop (mkF m 31 #[.val (.ref a0), .val (.int (2 : Int32))] [(.int (0 : Int32))]))
      obtain ⟨fs, hr, hrun, hended, hW, hsame⟩ := X0.leave (v := some (.int (0 : Int32))) (fun h => by rw [Bd.returns] at h; cases h)
      refine OGo.ret (retN X0 hx (t := .boolean) Bd.returns (by simp) (hb hby d11_31) hr) hrun hended ⟨_, _, rfl, ?_, ⟨_, rfl⟩, hW, hsame.mono (by decide) (by decide)⟩
      show Q_rm_fr2 Z a0 cK ka kb kc kd h0 n0 _ s₁.heap _
      rw [e0]
      exact ⟨congrArg (fun z => some (Value.int z)) (by show _ = (own_fr2 ka kb kc kd); unfold own_fr2; rw [if_neg hc11_3, if_pos hc27_6]), N0, rfl⟩
    · refine OGo.by (fun _ k => XS.icmpYes X0.here hx rfl (pc0 := 27) (pc' := 32) rfl (hb hby d11_27) rfl (feq hc27_6).2 (by decide) (by decide) k) ?_
      show OGo p e below _ (s₁.setTop (mkF m 32 #[.val (.ref a0), .val (.int (2 : Int32))] []))
      refine OGo.by (fun _ k => XS.iloadN X0.here hx rfl (hb hby d11_32) rfl k) ?_
      show OGo p e below _ (s₁.setTop (mkF m 33 #[.val (.ref a0), .val (.int (2 : Int32))] [(.int (2 : Int32))]))
      refine OGo.by (fun _ k => XS.iconst X0.here hx rfl (hb hby d11_33) k) ?_
      show OGo p e below _ (s₁.setTop (mkF m 34 #[.val (.ref a0), .val (.int (2 : Int32))] [(.int (3 : Int32)), (.int (2 : Int32))]))
      refine OGo.by (fun _ k => XS.icmpYes X0.here hx rfl (pc0 := 34) (pc' := 48) rfl (hb hby d11_34) rfl (tlt (by decide : (2 : Int32) < (3 : Int32))).1 (by decide) (by decide) k) ?_
      show OGo p e below _ (s₁.setTop (mkF m 48 #[.val (.ref a0), .val (.int (2 : Int32))] []))
      refine OGo.by (fun _ k => XS.iconst X0.here hx rfl (hb hby d11_48) k) ?_
      show OGo p e below _ (s₁.setTop (mkF m 49 #[.val (.ref a0), .val (.int (2 : Int32))] [(.int (1 : Int32))]))
      obtain ⟨fs, hr, hrun, hended, hW, hsame⟩ := X0.leave (v := some (.int (1 : Int32))) (fun h => by rw [Bd.returns] at h; cases h)
      refine OGo.ret (retN X0 hx (t := .boolean) Bd.returns (by simp) (hb hby d11_49) hr) hrun hended ⟨_, _, rfl, ?_, ⟨_, rfl⟩, hW, hsame.mono (by decide) (by decide)⟩
      show Q_rm_fr2 Z a0 cK ka kb kc kd h0 n0 _ s₁.heap _
      rw [e0]
      exact ⟨congrArg (fun z => some (Value.int z)) (by show _ = (own_fr2 ka kb kc kd); unfold own_fr2; rw [if_neg hc11_3, if_neg hc27_6]), N0, rfl⟩
theorem d11_37 : decode method_2_code 37 = .ok (.aload_n 0, 1) := by decide +kernel
theorem d11_38 : decode method_2_code 38 = .ok (.iconst 2, 1) := by decide +kernel
theorem d11_39 : decode method_2_code 39 = .ok (.iaload, 1) := by decide +kernel
theorem d11_40 : decode method_2_code 40 = .ok (.aload_n 0, 1) := by decide +kernel
theorem d11_41 : decode method_2_code 41 = .ok (.iload_n 1, 1) := by decide +kernel
theorem d11_42 : decode method_2_code 42 = .ok (.iaload, 1) := by decide +kernel
theorem d11_43 : decode method_2_code 43 = .ok (.if_icmp .ne 5, 3) := by decide +kernel
theorem d11_46 : decode method_2_code 46 = .ok (.iconst 0, 1) := by decide +kernel
theorem d11_47 : decode method_2_code 47 = .ok (.ireturn, 1) := by decide +kernel
theorem ef_rm_fr3 (m : MethodId) (a0 : Addr) (cK : ClassId) (ka : Int32) (kb : Int32) (kc : Int32) (kd : Int32) : entryFrame m #[(.ref a0), (.int (3 : Int32))] 2 = mkF m 0 #[.val (.ref a0), .val (.int (3 : Int32))] [] := by first | (simp [entryFrame, mkF, argsToLocals, Value.category]; done) | rfl
def own_fr3 (ka : Int32) (kb : Int32) (kc : Int32) (kd : Int32) : Int32 := (if ka = kd then (0 : Int32) else (if kb = kd then (0 : Int32) else (if kc = kd then (0 : Int32) else (1 : Int32))))
def Q_rm_fr3 (Z : State) (a0 : Addr) (cK : ClassId) (ka : Int32) (kb : Int32) (kc : Int32) (kd : Int32) (h0 : Heap) (n0 : Nat) (v : Option Value) (h : Heap) (L : List Loc) : Prop := v = some (.int (own_fr3 ka kb kc kd)) ∧ Fr n0 L ∧ h = h0
set_option maxRecDepth 65536 in
set_option maxHeartbeats 40000000 in
theorem rm_fr3 (l : Launch) (Z : State) (av0 : Array Value) (hw : ∀ d ∈ tables_1, d.before av0 Z = true) (ws : List Jvm.Cond) (a0 : Addr) (cK : ClassId) (ka : Int32) (kb : Int32) (kc : Int32) (kd : Int32) (h0 : Heap) (n0 : Nat) (Z0 : n0 ≤ h0.size) (A0 : Arv Z h0 a0 cK .int (4 : Int32) [(.int ka), (.int kb), (.int kc), (.int kd)] (.int (0 : Int32))) :
    MetFree l (⟨"com/example/faces_into_crowds/facesintocrowds/BucketsFirstPinLaw", "fresh", "([II)Z"⟩ : MethodName) (head1 (Jvm.Cond.code (⟨"com/example/faces_into_crowds/facesintocrowds/BucketsFirstPinLaw", "fresh", "([II)Z"⟩ : MethodName) method_2_code 2 (some .boolean) :: ws) ({ frames := 0, cells := 0, slots := 0, locals := 0 } : Room)) (fun a U => a = #[(.ref a0), (.int (3 : Int32))] ∧ Z.Warmed39 U.vm ∧ U.heap = h0) (fun _ _ _ _ _ => True) (fun _ U o U' => ∃ v L, o = .returned v ∧ Q_rm_fr3 Z a0 cK ka kb kc kd h0 n0 v U'.heap L ∧ FrameEnd U o U' L ({ frames := 0, cells := 0, slots := 0, locals := 0 } : Room).cells ({ frames := 0, cells := 0, slots := 0, locals := 0 } : Room).slots) := by
  refine MetFree.of_bodySF (plainFor_of_name own_pn11) hisR ?_
  intro p e s m args below meth c s₁ Bd hml0 hP hK
  obtain ⟨rfl, hZ, hh⟩ := hP
  have hx := Bd.exec
  have hby := Bd.bytes
  have hml : c.maxLocals = 2 := hml0
  have hown : s.vm.findClass "com/example/faces_into_crowds/facesintocrowds/BucketsFirstPinLaw" = some m.cls := findClass_of_methodNamed Bd.named
  have hnm := (name_of_methodNamed Bd.named Bd.method).1
  have X0 : Stand p l e ({ frames := 0, cells := 0, slots := 0, locals := 0 } : Room) s m #[(.ref a0), (.int (3 : Int32))] below meth c s₁ [] 0 0 := Stand.of_body Bd
  have e0 : s₁.heap = h0 := by rw [← hh, Bd.state]; rfl
  have N0 := Fr.nil n0
  refine OGo.by (P := fun U' o => ∃ v L, o = .returned v ∧ Q_rm_fr3 Z a0 cK ka kb kc kd h0 n0 v U'.heap L ∧ FrameEnd s o U' L ({ frames := 0, cells := 0, slots := 0, locals := 0 } : Room).cells ({ frames := 0, cells := 0, slots := 0, locals := 0 } : Room).slots) (fun T_ k_ => castTop (ef_rm_fr3 m a0 cK ka kb kc kd) k_) ?_
  show OGo p e below _ (s₁.setTop (mkF m 0 #[.val (.ref a0), .val (.int (3 : Int32))] []))
  refine OGo.by (fun _ k => XS.iloadN X0.here hx rfl (hb hby d11_0) rfl k) ?_
  show OGo p e below _ (s₁.setTop (mkF m 1 #[.val (.ref a0), .val (.int (3 : Int32))] [(.int (3 : Int32))]))
  refine OGo.by (fun _ k => XS.iconst X0.here hx rfl (hb hby d11_1) k) ?_
  show OGo p e below _ (s₁.setTop (mkF m 2 #[.val (.ref a0), .val (.int (3 : Int32))] [(.int (1 : Int32)), (.int (3 : Int32))]))
  refine OGo.by (fun _ k => XS.icmpNo X0.here hx rfl (hb hby d11_2) rfl (flt (by decide : ¬ ((3 : Int32) < (1 : Int32)))).1 k) ?_
  show OGo p e below _ (s₁.setTop (mkF m 5 #[.val (.ref a0), .val (.int (3 : Int32))] []))
  refine OGo.by (fun _ k => XS.aloadN X0.here hx rfl (hb hby d11_5) rfl rfl k) ?_
  show OGo p e below _ (s₁.setTop (mkF m 6 #[.val (.ref a0), .val (.int (3 : Int32))] [(.ref a0)]))
  refine OGo.by (fun _ k => XS.iconst X0.here hx rfl (hb hby d11_6) k) ?_
  show OGo p e below _ (s₁.setTop (mkF m 7 #[.val (.ref a0), .val (.int (3 : Int32))] [(.int (0 : Int32)), (.ref a0)]))
  obtain ⟨cl1, Ar1, q1, S1, M1, Hs1, G1⟩ := id A0
  have hin1 := inb_of (j := (0 : Int32)) S1 ⟨(by decide), (by decide)⟩
  refine OGo.by (X0.iaload hx (j := (0 : Int32)) (v := (.int ka)) (by rw [e0]; exact Ar1.1) (State.isArrayOf_alike hZ.alike Ar1.2.1) Ar1.2.2 hin1 (Has.at Hs1 hin1 rfl) (g := (mkF m 7 #[.val (.ref a0), .val (.int (3 : Int32))] [(.int (0 : Int32)), (.ref a0)])) rfl rfl (hb hby d11_7)) ?_
  show OGo p e below _ (s₁.setTop (mkF m 8 #[.val (.ref a0), .val (.int (3 : Int32))] [(.int ka)]))
  refine OGo.by (fun _ k => XS.aloadN X0.here hx rfl (hb hby d11_8) rfl rfl k) ?_
  show OGo p e below _ (s₁.setTop (mkF m 9 #[.val (.ref a0), .val (.int (3 : Int32))] [(.ref a0), (.int ka)]))
  refine OGo.by (fun _ k => XS.iloadN X0.here hx rfl (hb hby d11_9) rfl k) ?_
  show OGo p e below _ (s₁.setTop (mkF m 10 #[.val (.ref a0), .val (.int (3 : Int32))] [(.int (3 : Int32)), (.ref a0), (.int ka)]))
  obtain ⟨cl2, Ar2, q2, S2, M2, Hs2, G2⟩ := id A0
  have hin2 := inb_of (j := (3 : Int32)) S2 ⟨(by decide), (by decide)⟩
  refine OGo.by (X0.iaload hx (j := (3 : Int32)) (v := (.int kd)) (by rw [e0]; exact Ar2.1) (State.isArrayOf_alike hZ.alike Ar2.2.1) Ar2.2.2 hin2 (Has.at Hs2 hin2 rfl) (g := (mkF m 10 #[.val (.ref a0), .val (.int (3 : Int32))] [(.int (3 : Int32)), (.ref a0), (.int ka)])) rfl rfl (hb hby d11_10)) ?_
  show OGo p e below _ (s₁.setTop (mkF m 11 #[.val (.ref a0), .val (.int (3 : Int32))] [(.int kd), (.int ka)]))
  by_cases hc11_3 : ka = kd
  · refine OGo.by (fun _ k => XS.icmpNo X0.here hx rfl (hb hby d11_11) rfl (teq hc11_3).2 k) ?_
    show OGo p e below _ (s₁.setTop (mkF m 14 #[.val (.ref a0), .val (.int (3 : Int32))] []))
    refine OGo.by (fun _ k => XS.iconst X0.here hx rfl (hb hby d11_14) k) ?_
    show OGo p e below _ (s₁.setTop (mkF m 15 #[.val (.ref a0), .val (.int (3 : Int32))] [(.int (0 : Int32))]))
    obtain ⟨fs, hr, hrun, hended, hW, hsame⟩ := X0.leave (v := some (.int (0 : Int32))) (fun h => by rw [Bd.returns] at h; cases h)
    refine OGo.ret (retN X0 hx (t := .boolean) Bd.returns (by simp) (hb hby d11_15) hr) hrun hended ⟨_, _, rfl, ?_, ⟨_, rfl⟩, hW, hsame.mono (by decide) (by decide)⟩
    show Q_rm_fr3 Z a0 cK ka kb kc kd h0 n0 _ s₁.heap _
    rw [e0]
    exact ⟨congrArg (fun z => some (Value.int z)) (by show _ = (own_fr3 ka kb kc kd); unfold own_fr3; rw [if_pos hc11_3]), N0, rfl⟩
  · refine OGo.by (fun _ k => XS.icmpYes X0.here hx rfl (pc0 := 11) (pc' := 16) rfl (hb hby d11_11) rfl (feq hc11_3).2 (by decide) (by decide) k) ?_
    show OGo p e below _ (s₁.setTop (mkF m 16 #[.val (.ref a0), .val (.int (3 : Int32))] []))
    refine OGo.by (fun _ k => XS.iloadN X0.here hx rfl (hb hby d11_16) rfl k) ?_
    show OGo p e below _ (s₁.setTop (mkF m 17 #[.val (.ref a0), .val (.int (3 : Int32))] [(.int (3 : Int32))]))
    refine OGo.by (fun _ k => XS.iconst X0.here hx rfl (hb hby d11_17) k) ?_
    show OGo p e below _ (s₁.setTop (mkF m 18 #[.val (.ref a0), .val (.int (3 : Int32))] [(.int (2 : Int32)), (.int (3 : Int32))]))
    refine OGo.by (fun _ k => XS.icmpNo X0.here hx rfl (hb hby d11_18) rfl (flt (by decide : ¬ ((3 : Int32) < (2 : Int32)))).1 k) ?_
    show OGo p e below _ (s₁.setTop (mkF m 21 #[.val (.ref a0), .val (.int (3 : Int32))] []))
    refine OGo.by (fun _ k => XS.aloadN X0.here hx rfl (hb hby d11_21) rfl rfl k) ?_
    show OGo p e below _ (s₁.setTop (mkF m 22 #[.val (.ref a0), .val (.int (3 : Int32))] [(.ref a0)]))
    refine OGo.by (fun _ k => XS.iconst X0.here hx rfl (hb hby d11_22) k) ?_
    show OGo p e below _ (s₁.setTop (mkF m 23 #[.val (.ref a0), .val (.int (3 : Int32))] [(.int (1 : Int32)), (.ref a0)]))
    obtain ⟨cl4, Ar4, q4, S4, M4, Hs4, G4⟩ := id A0
    have hin4 := inb_of (j := (1 : Int32)) S4 ⟨(by decide), (by decide)⟩
    refine OGo.by (X0.iaload hx (j := (1 : Int32)) (v := (.int kb)) (by rw [e0]; exact Ar4.1) (State.isArrayOf_alike hZ.alike Ar4.2.1) Ar4.2.2 hin4 (Has.at Hs4 hin4 rfl) (g := (mkF m 23 #[.val (.ref a0), .val (.int (3 : Int32))] [(.int (1 : Int32)), (.ref a0)])) rfl rfl (hb hby d11_23)) ?_
    show OGo p e below _ (s₁.setTop (mkF m 24 #[.val (.ref a0), .val (.int (3 : Int32))] [(.int kb)]))
    refine OGo.by (fun _ k => XS.aloadN X0.here hx rfl (hb hby d11_24) rfl rfl k) ?_
    show OGo p e below _ (s₁.setTop (mkF m 25 #[.val (.ref a0), .val (.int (3 : Int32))] [(.ref a0), (.int kb)]))
    refine OGo.by (fun _ k => XS.iloadN X0.here hx rfl (hb hby d11_25) rfl k) ?_
    show OGo p e below _ (s₁.setTop (mkF m 26 #[.val (.ref a0), .val (.int (3 : Int32))] [(.int (3 : Int32)), (.ref a0), (.int kb)]))
    obtain ⟨cl5, Ar5, q5, S5, M5, Hs5, G5⟩ := id A0
    have hin5 := inb_of (j := (3 : Int32)) S5 ⟨(by decide), (by decide)⟩
    refine OGo.by (X0.iaload hx (j := (3 : Int32)) (v := (.int kd)) (by rw [e0]; exact Ar5.1) (State.isArrayOf_alike hZ.alike Ar5.2.1) Ar5.2.2 hin5 (Has.at Hs5 hin5 rfl) (g := (mkF m 26 #[.val (.ref a0), .val (.int (3 : Int32))] [(.int (3 : Int32)), (.ref a0), (.int kb)])) rfl rfl (hb hby d11_26)) ?_
    show OGo p e below _ (s₁.setTop (mkF m 27 #[.val (.ref a0), .val (.int (3 : Int32))] [(.int kd), (.int kb)]))
    by_cases hc27_6 : kb = kd
    · refine OGo.by (fun _ k => XS.icmpNo X0.here hx rfl (hb hby d11_27) rfl (teq hc27_6).2 k) ?_
      show OGo p e below _ (s₁.setTop (mkF m 30 #[.val (.ref a0), .val (.int (3 : Int32))] []))
      refine OGo.by (fun _ k => XS.iconst X0.here hx rfl (hb hby d11_30) k) ?_
      show OGo p e below _ (s₁.setTop (mkF m 31 #[.val (.ref a0), .val (.int (3 : Int32))] [(.int (0 : Int32))]))
      obtain ⟨fs, hr, hrun, hended, hW, hsame⟩ := X0.leave (v := some (.int (0 : Int32))) (fun h => by rw [Bd.returns] at h; cases h)
      refine OGo.ret (retN X0 hx (t := .boolean) Bd.returns (by simp) (hb hby d11_31) hr) hrun hended ⟨_, _, rfl, ?_, ⟨_, rfl⟩, hW, hsame.mono (by decide) (by decide)⟩
      show Q_rm_fr3 Z a0 cK ka kb kc kd h0 n0 _ s₁.heap _
      rw [e0]
      exact ⟨congrArg (fun z => some (Value.int z)) (by show _ = (own_fr3 ka kb kc kd); unfold own_fr3; rw [if_neg hc11_3, if_pos hc27_6]), N0, rfl⟩
    · refine OGo.by (fun _ k => XS.icmpYes X0.here hx rfl (pc0 := 27) (pc' := 32) rfl (hb hby d11_27) rfl (feq hc27_6).2 (by decide) (by decide) k) ?_
      show OGo p e below _ (s₁.setTop (mkF m 32 #[.val (.ref a0), .val (.int (3 : Int32))] []))
      refine OGo.by (fun _ k => XS.iloadN X0.here hx rfl (hb hby d11_32) rfl k) ?_
      show OGo p e below _ (s₁.setTop (mkF m 33 #[.val (.ref a0), .val (.int (3 : Int32))] [(.int (3 : Int32))]))
      refine OGo.by (fun _ k => XS.iconst X0.here hx rfl (hb hby d11_33) k) ?_
      show OGo p e below _ (s₁.setTop (mkF m 34 #[.val (.ref a0), .val (.int (3 : Int32))] [(.int (3 : Int32)), (.int (3 : Int32))]))
      refine OGo.by (fun _ k => XS.icmpNo X0.here hx rfl (hb hby d11_34) rfl (flt (by decide : ¬ ((3 : Int32) < (3 : Int32)))).1 k) ?_
      show OGo p e below _ (s₁.setTop (mkF m 37 #[.val (.ref a0), .val (.int (3 : Int32))] []))
      refine OGo.by (fun _ k => XS.aloadN X0.here hx rfl (hb hby d11_37) rfl rfl k) ?_
      show OGo p e below _ (s₁.setTop (mkF m 38 #[.val (.ref a0), .val (.int (3 : Int32))] [(.ref a0)]))
      refine OGo.by (fun _ k => XS.iconst X0.here hx rfl (hb hby d11_38) k) ?_
      show OGo p e below _ (s₁.setTop (mkF m 39 #[.val (.ref a0), .val (.int (3 : Int32))] [(.int (2 : Int32)), (.ref a0)]))
      obtain ⟨cl7, Ar7, q7, S7, M7, Hs7, G7⟩ := id A0
      have hin7 := inb_of (j := (2 : Int32)) S7 ⟨(by decide), (by decide)⟩
      refine OGo.by (X0.iaload hx (j := (2 : Int32)) (v := (.int kc)) (by rw [e0]; exact Ar7.1) (State.isArrayOf_alike hZ.alike Ar7.2.1) Ar7.2.2 hin7 (Has.at Hs7 hin7 rfl) (g := (mkF m 39 #[.val (.ref a0), .val (.int (3 : Int32))] [(.int (2 : Int32)), (.ref a0)])) rfl rfl (hb hby d11_39)) ?_
      show OGo p e below _ (s₁.setTop (mkF m 40 #[.val (.ref a0), .val (.int (3 : Int32))] [(.int kc)]))
      refine OGo.by (fun _ k => XS.aloadN X0.here hx rfl (hb hby d11_40) rfl rfl k) ?_
      show OGo p e below _ (s₁.setTop (mkF m 41 #[.val (.ref a0), .val (.int (3 : Int32))] [(.ref a0), (.int kc)]))
      refine OGo.by (fun _ k => XS.iloadN X0.here hx rfl (hb hby d11_41) rfl k) ?_
      show OGo p e below _ (s₁.setTop (mkF m 42 #[.val (.ref a0), .val (.int (3 : Int32))] [(.int (3 : Int32)), (.ref a0), (.int kc)]))
      obtain ⟨cl8, Ar8, q8, S8, M8, Hs8, G8⟩ := id A0
      have hin8 := inb_of (j := (3 : Int32)) S8 ⟨(by decide), (by decide)⟩
      refine OGo.by (X0.iaload hx (j := (3 : Int32)) (v := (.int kd)) (by rw [e0]; exact Ar8.1) (State.isArrayOf_alike hZ.alike Ar8.2.1) Ar8.2.2 hin8 (Has.at Hs8 hin8 rfl) (g := (mkF m 42 #[.val (.ref a0), .val (.int (3 : Int32))] [(.int (3 : Int32)), (.ref a0), (.int kc)])) rfl rfl (hb hby d11_42)) ?_
      show OGo p e below _ (s₁.setTop (mkF m 43 #[.val (.ref a0), .val (.int (3 : Int32))] [(.int kd), (.int kc)]))
      by_cases hc43_9 : kc = kd
      · refine OGo.by (fun _ k => XS.icmpNo X0.here hx rfl (hb hby d11_43) rfl (teq hc43_9).2 k) ?_
        show OGo p e below _ (s₁.setTop (mkF m 46 #[.val (.ref a0), .val (.int (3 : Int32))] []))
        refine OGo.by (fun _ k => XS.iconst X0.here hx rfl (hb hby d11_46) k) ?_
        show OGo p e below _ (s₁.setTop (mkF m 47 #[.val (.ref a0), .val (.int (3 : Int32))] [(.int (0 : Int32))]))
        obtain ⟨fs, hr, hrun, hended, hW, hsame⟩ := X0.leave (v := some (.int (0 : Int32))) (fun h => by rw [Bd.returns] at h; cases h)
        refine OGo.ret (retN X0 hx (t := .boolean) Bd.returns (by simp) (hb hby d11_47) hr) hrun hended ⟨_, _, rfl, ?_, ⟨_, rfl⟩, hW, hsame.mono (by decide) (by decide)⟩
        show Q_rm_fr3 Z a0 cK ka kb kc kd h0 n0 _ s₁.heap _
        rw [e0]
        exact ⟨congrArg (fun z => some (Value.int z)) (by show _ = (own_fr3 ka kb kc kd); unfold own_fr3; rw [if_neg hc11_3, if_neg hc27_6, if_pos hc43_9]), N0, rfl⟩
      · refine OGo.by (fun _ k => XS.icmpYes X0.here hx rfl (pc0 := 43) (pc' := 48) rfl (hb hby d11_43) rfl (feq hc43_9).2 (by decide) (by decide) k) ?_
        show OGo p e below _ (s₁.setTop (mkF m 48 #[.val (.ref a0), .val (.int (3 : Int32))] []))
        refine OGo.by (fun _ k => XS.iconst X0.here hx rfl (hb hby d11_48) k) ?_
        show OGo p e below _ (s₁.setTop (mkF m 49 #[.val (.ref a0), .val (.int (3 : Int32))] [(.int (1 : Int32))]))
        obtain ⟨fs, hr, hrun, hended, hW, hsame⟩ := X0.leave (v := some (.int (1 : Int32))) (fun h => by rw [Bd.returns] at h; cases h)
        refine OGo.ret (retN X0 hx (t := .boolean) Bd.returns (by simp) (hb hby d11_49) hr) hrun hended ⟨_, _, rfl, ?_, ⟨_, rfl⟩, hW, hsame.mono (by decide) (by decide)⟩
        show Q_rm_fr3 Z a0 cK ka kb kc kd h0 n0 _ s₁.heap _
        rw [e0]
        exact ⟨congrArg (fun z => some (Value.int z)) (by show _ = (own_fr3 ka kb kc kd); unfold own_fr3; rw [if_neg hc11_3, if_neg hc27_6, if_neg hc43_9]), N0, rfl⟩
def own_bs (cn lim fr n : Int32) : Int32 := if lim < cn then (if fr = (0 : Int32) then n else n + (1 : Int32)) else n
def own_ls (cn lim fr r q ld : Int32) : Int32 := if lim < cn then (if fr = (0 : Int32) then ld else if r = q then lim else ld) else ld
def own_ws (cn lim : Int32) (R : List Int32) (i : Nat) (ld an : Int32) : Int32 := if lim < cn then (if R.getD i 0 = R.getD ld.toNatClampNeg 0 then lim else an) else an
def own_bc (p1 ka kb kc kd : Int32) : Int32 := (own_bs p1 (3 : Int32) (own_fr3 ka kb kc kd) (own_bs p1 (2 : Int32) (own_fr2 ka kb kc kd) (own_bs p1 (1 : Int32) (own_fr1 ka kb kc kd) (own_bs p1 (0 : Int32) (own_fr0 ka kb kc kd) (0 : Int32)))))
def own_lo (p1 p2 ka kb kc kd : Int32) : Int32 := (own_ls p1 (3 : Int32) (own_fr3 ka kb kc kd) (own_bs p1 (2 : Int32) (own_fr2 ka kb kc kd) (own_bs p1 (1 : Int32) (own_fr1 ka kb kc kd) (own_bs p1 (0 : Int32) (own_fr0 ka kb kc kd) (0 : Int32)))) p2 (own_ls p1 (2 : Int32) (own_fr2 ka kb kc kd) (own_bs p1 (1 : Int32) (own_fr1 ka kb kc kd) (own_bs p1 (0 : Int32) (own_fr0 ka kb kc kd) (0 : Int32))) p2 (own_ls p1 (1 : Int32) (own_fr1 ka kb kc kd) (own_bs p1 (0 : Int32) (own_fr0 ka kb kc kd) (0 : Int32)) p2 (own_ls p1 (0 : Int32) (own_fr0 ka kb kc kd) (0 : Int32) p2 (0 : Int32)))))
def own_lw (p1 p2 : Int32) (R : List Int32) : Int32 := (own_ws p1 (3 : Int32) R 3 p2 (own_ws p1 (2 : Int32) R 2 p2 (own_ws p1 (1 : Int32) R 1 p2 p2)))
theorem d8_0 : decode method_3_code 0 = .ok (.iconst 0, 1) := by decide +kernel
theorem d8_1 : decode method_3_code 1 = .ok (.istore_n 2, 1) := by decide +kernel
theorem d8_2 : decode method_3_code 2 = .ok (.iload_n 1, 1) := by decide +kernel
theorem d8_3 : decode method_3_code 3 = .ok (.ifCond .le 14, 3) := by decide +kernel
theorem d8_6 : decode method_3_code 6 = .ok (.aload_n 0, 1) := by decide +kernel
theorem d8_7 : decode method_3_code 7 = .ok (.iconst 0, 1) := by decide +kernel
theorem d8_8 : decode method_3_code 8 = .ok (.invokestatic 7, 3) := by decide +kernel
theorem own_pd5 : parseMethodDescriptor "([II)Z" = some ⟨[(.array .int), .int], some .boolean⟩ := by decide +kernel
theorem d8_11 : decode method_3_code 11 = .ok (.ifCond .eq 6, 3) := by decide +kernel
theorem d8_14 : decode method_3_code 14 = .ok (.iinc 2 1, 3) := by decide +kernel
theorem d8_17 : decode method_3_code 17 = .ok (.iload_n 1, 1) := by decide +kernel
theorem d8_18 : decode method_3_code 18 = .ok (.iconst 1, 1) := by decide +kernel
theorem d8_19 : decode method_3_code 19 = .ok (.if_icmp .le 14, 3) := by decide +kernel
theorem d8_22 : decode method_3_code 22 = .ok (.aload_n 0, 1) := by decide +kernel
theorem d8_23 : decode method_3_code 23 = .ok (.iconst 1, 1) := by decide +kernel
theorem d8_24 : decode method_3_code 24 = .ok (.invokestatic 7, 3) := by decide +kernel
theorem d8_27 : decode method_3_code 27 = .ok (.ifCond .eq 6, 3) := by decide +kernel
theorem d8_30 : decode method_3_code 30 = .ok (.iinc 2 1, 3) := by decide +kernel
theorem d8_33 : decode method_3_code 33 = .ok (.iload_n 1, 1) := by decide +kernel
theorem d8_34 : decode method_3_code 34 = .ok (.iconst 2, 1) := by decide +kernel
theorem d8_35 : decode method_3_code 35 = .ok (.if_icmp .le 14, 3) := by decide +kernel
theorem d8_38 : decode method_3_code 38 = .ok (.aload_n 0, 1) := by decide +kernel
theorem d8_39 : decode method_3_code 39 = .ok (.iconst 2, 1) := by decide +kernel
theorem d8_40 : decode method_3_code 40 = .ok (.invokestatic 7, 3) := by decide +kernel
theorem d8_43 : decode method_3_code 43 = .ok (.ifCond .eq 6, 3) := by decide +kernel
theorem d8_46 : decode method_3_code 46 = .ok (.iinc 2 1, 3) := by decide +kernel
theorem d8_49 : decode method_3_code 49 = .ok (.iload_n 1, 1) := by decide +kernel
theorem d8_50 : decode method_3_code 50 = .ok (.iconst 3, 1) := by decide +kernel
theorem d8_51 : decode method_3_code 51 = .ok (.if_icmp .le 14, 3) := by decide +kernel
theorem d8_54 : decode method_3_code 54 = .ok (.aload_n 0, 1) := by decide +kernel
theorem d8_55 : decode method_3_code 55 = .ok (.iconst 3, 1) := by decide +kernel
theorem d8_56 : decode method_3_code 56 = .ok (.invokestatic 7, 3) := by decide +kernel
theorem d8_59 : decode method_3_code 59 = .ok (.ifCond .eq 6, 3) := by decide +kernel
theorem d8_62 : decode method_3_code 62 = .ok (.iinc 2 1, 3) := by decide +kernel
theorem d8_65 : decode method_3_code 65 = .ok (.iload_n 2, 1) := by decide +kernel
theorem d8_66 : decode method_3_code 66 = .ok (.ireturn, 1) := by decide +kernel
theorem own_pn8 : plainName "com/example/faces_into_crowds/facesintocrowds/BucketsFirstPinLaw" = true := by first | (simp [plainName, overriddenIn]; done) | decide +kernel
theorem ef_rm_bc (m : MethodId) (a0 : Addr) (p1 : Int32) : entryFrame m #[(.ref a0), (.int p1)] 3 = mkF m 0 #[.val (.ref a0), .val (.int p1), .unset] [] := by first | (simp [entryFrame, mkF, argsToLocals, Value.category]; done) | rfl
def Q_rm_bc (Z : State) (a0 : Addr) (p1 : Int32) (cK : ClassId) (ka : Int32) (kb : Int32) (kc : Int32) (kd : Int32) (h0 : Heap) (n0 : Nat) (v : Option Value) (h : Heap) (L : List Loc) : Prop := v = some (.int (own_bc p1 ka kb kc kd)) ∧ Fr n0 L ∧ h = h0
set_option maxRecDepth 65536 in
set_option maxHeartbeats 40000000 in
theorem rm_bc (l : Launch) (Z : State) (av0 : Array Value) (hw : ∀ d ∈ tables_1, d.before av0 Z = true) (ws : List Jvm.Cond) (a0 : Addr) (p1 : Int32) (cK : ClassId) (ka : Int32) (kb : Int32) (kc : Int32) (kd : Int32) (h0 : Heap) (n0 : Nat) (Z0 : n0 ≤ h0.size) (A0 : Arv Z h0 a0 cK .int (4 : Int32) [(.int ka), (.int kb), (.int kc), (.int kd)] (.int (0 : Int32))) :
    MetFree l (⟨"com/example/faces_into_crowds/facesintocrowds/BucketsFirstPinLaw", "bucketCount", "([II)I"⟩ : MethodName) (head1 (Jvm.Cond.code (⟨"com/example/faces_into_crowds/facesintocrowds/BucketsFirstPinLaw", "bucketCount", "([II)I"⟩ : MethodName) method_3_code 3 (some .int) :: ws) ({ frames := 1, cells := 0, slots := 0, locals := 13 } : Room)) (fun a U => a = #[(.ref a0), (.int p1)] ∧ Z.Warmed39 U.vm ∧ U.heap = h0) (fun _ _ _ _ _ => True) (fun _ U o U' => ∃ v L, o = .returned v ∧ Q_rm_bc Z a0 p1 cK ka kb kc kd h0 n0 v U'.heap L ∧ FrameEnd U o U' L ({ frames := 1, cells := 0, slots := 0, locals := 13 } : Room).cells ({ frames := 1, cells := 0, slots := 0, locals := 13 } : Room).slots) := by
  refine MetFree.of_bodySF (plainFor_of_name own_pn8) hisR ?_
  intro p e s m args below meth c s₁ Bd hml0 hP hK
  obtain ⟨rfl, hZ, hh⟩ := hP
  have hx := Bd.exec
  have hby := Bd.bytes
  have hml : c.maxLocals = 3 := hml0
  have hown : s.vm.findClass "com/example/faces_into_crowds/facesintocrowds/BucketsFirstPinLaw" = some m.cls := findClass_of_methodNamed Bd.named
  have hnm := (name_of_methodNamed Bd.named Bd.method).1
  have X0 : Stand p l e ({ frames := 1, cells := 0, slots := 0, locals := 13 } : Room) s m #[(.ref a0), (.int p1)] below meth c s₁ [] 0 0 := Stand.of_body Bd
  have e0 : s₁.heap = h0 := by rw [← hh, Bd.state]; rfl
  have N0 := Fr.nil n0
  refine OGo.by (P := fun U' o => ∃ v L, o = .returned v ∧ Q_rm_bc Z a0 p1 cK ka kb kc kd h0 n0 v U'.heap L ∧ FrameEnd s o U' L ({ frames := 1, cells := 0, slots := 0, locals := 13 } : Room).cells ({ frames := 1, cells := 0, slots := 0, locals := 13 } : Room).slots) (fun T_ k_ => castTop (ef_rm_bc m a0 p1) k_) ?_
  show OGo p e below _ (s₁.setTop (mkF m 0 #[.val (.ref a0), .val (.int p1), .unset] []))
  refine OGo.by (fun _ k => XS.iconst X0.here hx rfl (hb hby d8_0) k) ?_
  show OGo p e below _ (s₁.setTop (mkF m 1 #[.val (.ref a0), .val (.int p1), .unset] [(.int (0 : Int32))]))
  refine OGo.by (fun _ k => XS.istoreN X0.here hx rfl (hb hby d8_1) rfl (l' := #[.val (.ref a0), .val (.int p1), .val (.int (0 : Int32))]) rfl k) ?_
  show OGo p e below _ (s₁.setTop (mkF m 2 #[.val (.ref a0), .val (.int p1), .val (.int (0 : Int32))] []))
  suffices J17 : ∀ (Tj17 : State) (lj17 : List Loc) (nn17 : Int32), Stand p l e ({ frames := 1, cells := 0, slots := 0, locals := 13 } : Room) s m #[(.ref a0), (.int p1)] below meth c Tj17 lj17 0 0 → Tj17.heap = h0 → Fr n0 lj17 → nn17 = (own_bs p1 (0 : Int32) (own_fr0 ka kb kc kd) (0 : Int32)) → OGo p e below (fun U' o => ∃ v L, o = .returned v ∧ Q_rm_bc Z a0 p1 cK ka kb kc kd h0 n0 v U'.heap L ∧ FrameEnd s o U' L (({ frames := 1, cells := 0, slots := 0, locals := 13 } : Room)).cells (({ frames := 1, cells := 0, slots := 0, locals := 13 } : Room)).slots) (Tj17.setTop (mkF m 17 #[.val (.ref a0), .val (.int p1), .val (.int nn17)] [])) by
    refine OGo.by (fun _ k => XS.iloadN X0.here hx rfl (hb hby d8_2) rfl k) ?_
    show OGo p e below _ (s₁.setTop (mkF m 3 #[.val (.ref a0), .val (.int p1), .val (.int (0 : Int32))] [(.int p1)]))
    by_cases hc3_1 : (0 : Int32) < p1
    · refine OGo.by (fun _ k => XS.ifNo X0.here hx rfl (hb hby d8_3) rfl ((if0 _ _).trans (tlt hc3_1).2.2.2) k) ?_
      show OGo p e below _ (s₁.setTop (mkF m 6 #[.val (.ref a0), .val (.int p1), .val (.int (0 : Int32))] []))
      refine OGo.by (fun _ k => XS.aloadN X0.here hx rfl (hb hby d8_6) rfl rfl k) ?_
      show OGo p e below _ (s₁.setTop (mkF m 7 #[.val (.ref a0), .val (.int p1), .val (.int (0 : Int32))] [(.ref a0)]))
      refine OGo.by (fun _ k => XS.iconst X0.here hx rfl (hb hby d8_7) k) ?_
      show OGo p e below _ (s₁.setTop (mkF m 8 #[.val (.ref a0), .val (.int p1), .val (.int (0 : Int32))] [(.int (0 : Int32)), (.ref a0)]))
      have H2 := Jvm.LawKit.callS X0 hx (y := (⟨"com/example/faces_into_crowds/facesintocrowds/BucketsFirstPinLaw", "fresh", "([II)Z"⟩ : MethodName)) hown (mvT hZ (hw _ (List.mem_of_getElem? (i := 61) rfl))) (mvT hZ (hw _ (List.mem_of_getElem? (i := 62) rfl))) (mvT hZ (hw _ (List.mem_of_getElem? (i := 50) rfl))) (mvT hZ (hw _ (List.mem_of_getElem? (i := 63) rfl))) (by decide) (backOf (W := 0) (rm_fr0 l Z av0 hw [] a0 cK ka kb kc kd h0 n0 Z0 A0) hZ (hw _ (List.mem_of_getElem? (i := 63) rfl)) (hw _ (List.mem_of_getElem? (i := 50) rfl)) (by decide) (by decide)) (g := (mkF m 8 #[.val (.ref a0), .val (.int p1), .val (.int (0 : Int32))] [(.int (0 : Int32)), (.ref a0)])) rfl (by rw [hml]; rfl) (argsL := [(.ref a0), (.int (0 : Int32))]) (rest := []) (lenOf own_pd5 rfl) rfl (by show 2 * 0 + _ ≤ _; exact Nat.le_of_eq rfl) (hb hby d8_8) (fun _ _ => ⟨rfl, e0, (by decide : 0 + 0 ≤ _), (by decide : 0 + 0 ≤ _)⟩)
      refine own_cpsP H2 (c' := 0) (s' := 0) rfl rfl N0 (r := (some (.int (own_fr0 ka kb kc kd)))) (h1 := h0) (fun _ _ _ q => q) ?_
      clear H2
      intro T2 L2 X2 N2 e2
      show OGo p e below _ (T2.setTop (mkF m 11 #[.val (.ref a0), .val (.int p1), .val (.int (0 : Int32))] [(.int (own_fr0 ka kb kc kd))]))
      by_cases hc11_3 : (own_fr0 ka kb kc kd) = (0 : Int32)
      · refine OGo.by (fun _ k => XS.ifYes X2.here hx rfl (pc0 := 11) (pc' := 17) rfl (hb hby d8_11) rfl ((if0 _ _).trans (teq hc11_3).1) (by decide) (by decide) k) ?_
        show OGo p e below _ (T2.setTop (mkF m 17 #[.val (.ref a0), .val (.int p1), .val (.int (0 : Int32))] []))
        exact J17 _ _ (0 : Int32) X2 e2 N2 (Eq.symm ((if_pos hc3_1).trans (if_pos hc11_3)))
      · refine OGo.by (fun _ k => XS.ifNo X2.here hx rfl (hb hby d8_11) rfl ((if0 _ _).trans (feq hc11_3).1) k) ?_
        show OGo p e below _ (T2.setTop (mkF m 14 #[.val (.ref a0), .val (.int p1), .val (.int (0 : Int32))] []))
        refine OGo.by (fun _ k => XS.iinc X2.here hx rfl (hb hby d8_14) rfl (l' := #[.val (.ref a0), .val (.int p1), .val (.int ((0 : Int32) + (1 : Int32)))]) rfl k) ?_
        show OGo p e below _ (T2.setTop (mkF m 17 #[.val (.ref a0), .val (.int p1), .val (.int ((0 : Int32) + (1 : Int32)))] []))
        exact J17 _ _ ((0 : Int32) + (1 : Int32)) X2 e2 N2 (Eq.symm ((if_pos hc3_1).trans (if_neg hc11_3)))
    · refine OGo.by (fun _ k => XS.ifYes X0.here hx rfl (pc0 := 3) (pc' := 17) rfl (hb hby d8_3) rfl ((if0 _ _).trans (flt hc3_1).2.2.2) (by decide) (by decide) k) ?_
      show OGo p e below _ (s₁.setTop (mkF m 17 #[.val (.ref a0), .val (.int p1), .val (.int (0 : Int32))] []))
      exact J17 _ _ (0 : Int32) X0 e0 N0 (Eq.symm (if_neg hc3_1))
  intro Tj17 lj17 nn17 Xj17 ej17 Nj17 hqnn17
  suffices J33 : ∀ (Tj33 : State) (lj33 : List Loc) (nn33 : Int32), Stand p l e ({ frames := 1, cells := 0, slots := 0, locals := 13 } : Room) s m #[(.ref a0), (.int p1)] below meth c Tj33 lj33 0 0 → Tj33.heap = h0 → Fr n0 lj33 → nn33 = (own_bs p1 (1 : Int32) (own_fr1 ka kb kc kd) nn17) → OGo p e below (fun U' o => ∃ v L, o = .returned v ∧ Q_rm_bc Z a0 p1 cK ka kb kc kd h0 n0 v U'.heap L ∧ FrameEnd s o U' L (({ frames := 1, cells := 0, slots := 0, locals := 13 } : Room)).cells (({ frames := 1, cells := 0, slots := 0, locals := 13 } : Room)).slots) (Tj33.setTop (mkF m 33 #[.val (.ref a0), .val (.int p1), .val (.int nn33)] [])) by
    refine OGo.by (fun _ k => XS.iloadN Xj17.here hx rfl (hb hby d8_17) rfl k) ?_
    show OGo p e below _ (Tj17.setTop (mkF m 18 #[.val (.ref a0), .val (.int p1), .val (.int nn17)] [(.int p1)]))
    refine OGo.by (fun _ k => XS.iconst Xj17.here hx rfl (hb hby d8_18) k) ?_
    show OGo p e below _ (Tj17.setTop (mkF m 19 #[.val (.ref a0), .val (.int p1), .val (.int nn17)] [(.int (1 : Int32)), (.int p1)]))
    by_cases hc19_4 : (1 : Int32) < p1
    · refine OGo.by (fun _ k => XS.icmpNo Xj17.here hx rfl (hb hby d8_19) rfl (tlt hc19_4).2.2.2 k) ?_
      show OGo p e below _ (Tj17.setTop (mkF m 22 #[.val (.ref a0), .val (.int p1), .val (.int nn17)] []))
      refine OGo.by (fun _ k => XS.aloadN Xj17.here hx rfl (hb hby d8_22) rfl rfl k) ?_
      show OGo p e below _ (Tj17.setTop (mkF m 23 #[.val (.ref a0), .val (.int p1), .val (.int nn17)] [(.ref a0)]))
      refine OGo.by (fun _ k => XS.iconst Xj17.here hx rfl (hb hby d8_23) k) ?_
      show OGo p e below _ (Tj17.setTop (mkF m 24 #[.val (.ref a0), .val (.int p1), .val (.int nn17)] [(.int (1 : Int32)), (.ref a0)]))
      have H5 := Jvm.LawKit.callS Xj17 hx (y := (⟨"com/example/faces_into_crowds/facesintocrowds/BucketsFirstPinLaw", "fresh", "([II)Z"⟩ : MethodName)) hown (mvT hZ (hw _ (List.mem_of_getElem? (i := 61) rfl))) (mvT hZ (hw _ (List.mem_of_getElem? (i := 62) rfl))) (mvT hZ (hw _ (List.mem_of_getElem? (i := 50) rfl))) (mvT hZ (hw _ (List.mem_of_getElem? (i := 63) rfl))) (by decide) (backOf (W := 0) (rm_fr1 l Z av0 hw [] a0 cK ka kb kc kd h0 n0 Z0 A0) hZ (hw _ (List.mem_of_getElem? (i := 63) rfl)) (hw _ (List.mem_of_getElem? (i := 50) rfl)) (by decide) (by decide)) (g := (mkF m 24 #[.val (.ref a0), .val (.int p1), .val (.int nn17)] [(.int (1 : Int32)), (.ref a0)])) rfl (by rw [hml]; rfl) (argsL := [(.ref a0), (.int (1 : Int32))]) (rest := []) (lenOf own_pd5 rfl) rfl (by show 2 * 0 + _ ≤ _; exact Nat.le_of_eq rfl) (hb hby d8_24) (fun _ _ => ⟨rfl, ej17, (by decide : 0 + 0 ≤ _), (by decide : 0 + 0 ≤ _)⟩)
      refine own_cpsP H5 (c' := 0) (s' := 0) rfl rfl Nj17 (r := (some (.int (own_fr1 ka kb kc kd)))) (h1 := h0) (fun _ _ _ q => q) ?_
      clear H5
      intro T5 L5 X5 N5 e5
      show OGo p e below _ (T5.setTop (mkF m 27 #[.val (.ref a0), .val (.int p1), .val (.int nn17)] [(.int (own_fr1 ka kb kc kd))]))
      by_cases hc27_6 : (own_fr1 ka kb kc kd) = (0 : Int32)
      · refine OGo.by (fun _ k => XS.ifYes X5.here hx rfl (pc0 := 27) (pc' := 33) rfl (hb hby d8_27) rfl ((if0 _ _).trans (teq hc27_6).1) (by decide) (by decide) k) ?_
        show OGo p e below _ (T5.setTop (mkF m 33 #[.val (.ref a0), .val (.int p1), .val (.int nn17)] []))
        exact J33 _ _ nn17 X5 e5 N5 (Eq.symm ((if_pos hc19_4).trans (if_pos hc27_6)))
      · refine OGo.by (fun _ k => XS.ifNo X5.here hx rfl (hb hby d8_27) rfl ((if0 _ _).trans (feq hc27_6).1) k) ?_
        show OGo p e below _ (T5.setTop (mkF m 30 #[.val (.ref a0), .val (.int p1), .val (.int nn17)] []))
        refine OGo.by (fun _ k => XS.iinc X5.here hx rfl (hb hby d8_30) rfl (l' := #[.val (.ref a0), .val (.int p1), .val (.int (nn17 + (1 : Int32)))]) rfl k) ?_
        show OGo p e below _ (T5.setTop (mkF m 33 #[.val (.ref a0), .val (.int p1), .val (.int (nn17 + (1 : Int32)))] []))
        exact J33 _ _ (nn17 + (1 : Int32)) X5 e5 N5 (Eq.symm ((if_pos hc19_4).trans (if_neg hc27_6)))
    · refine OGo.by (fun _ k => XS.icmpYes Xj17.here hx rfl (pc0 := 19) (pc' := 33) rfl (hb hby d8_19) rfl (flt hc19_4).2.2.2 (by decide) (by decide) k) ?_
      show OGo p e below _ (Tj17.setTop (mkF m 33 #[.val (.ref a0), .val (.int p1), .val (.int nn17)] []))
      exact J33 _ _ nn17 Xj17 ej17 Nj17 (Eq.symm (if_neg hc19_4))
  intro Tj33 lj33 nn33 Xj33 ej33 Nj33 hqnn33
  suffices J49 : ∀ (Tj49 : State) (lj49 : List Loc) (nn49 : Int32), Stand p l e ({ frames := 1, cells := 0, slots := 0, locals := 13 } : Room) s m #[(.ref a0), (.int p1)] below meth c Tj49 lj49 0 0 → Tj49.heap = h0 → Fr n0 lj49 → nn49 = (own_bs p1 (2 : Int32) (own_fr2 ka kb kc kd) nn33) → OGo p e below (fun U' o => ∃ v L, o = .returned v ∧ Q_rm_bc Z a0 p1 cK ka kb kc kd h0 n0 v U'.heap L ∧ FrameEnd s o U' L (({ frames := 1, cells := 0, slots := 0, locals := 13 } : Room)).cells (({ frames := 1, cells := 0, slots := 0, locals := 13 } : Room)).slots) (Tj49.setTop (mkF m 49 #[.val (.ref a0), .val (.int p1), .val (.int nn49)] [])) by
    refine OGo.by (fun _ k => XS.iloadN Xj33.here hx rfl (hb hby d8_33) rfl k) ?_
    show OGo p e below _ (Tj33.setTop (mkF m 34 #[.val (.ref a0), .val (.int p1), .val (.int nn33)] [(.int p1)]))
    refine OGo.by (fun _ k => XS.iconst Xj33.here hx rfl (hb hby d8_34) k) ?_
    show OGo p e below _ (Tj33.setTop (mkF m 35 #[.val (.ref a0), .val (.int p1), .val (.int nn33)] [(.int (2 : Int32)), (.int p1)]))
    by_cases hc35_7 : (2 : Int32) < p1
    · refine OGo.by (fun _ k => XS.icmpNo Xj33.here hx rfl (hb hby d8_35) rfl (tlt hc35_7).2.2.2 k) ?_
      show OGo p e below _ (Tj33.setTop (mkF m 38 #[.val (.ref a0), .val (.int p1), .val (.int nn33)] []))
      refine OGo.by (fun _ k => XS.aloadN Xj33.here hx rfl (hb hby d8_38) rfl rfl k) ?_
      show OGo p e below _ (Tj33.setTop (mkF m 39 #[.val (.ref a0), .val (.int p1), .val (.int nn33)] [(.ref a0)]))
      refine OGo.by (fun _ k => XS.iconst Xj33.here hx rfl (hb hby d8_39) k) ?_
      show OGo p e below _ (Tj33.setTop (mkF m 40 #[.val (.ref a0), .val (.int p1), .val (.int nn33)] [(.int (2 : Int32)), (.ref a0)]))
      have H8 := Jvm.LawKit.callS Xj33 hx (y := (⟨"com/example/faces_into_crowds/facesintocrowds/BucketsFirstPinLaw", "fresh", "([II)Z"⟩ : MethodName)) hown (mvT hZ (hw _ (List.mem_of_getElem? (i := 61) rfl))) (mvT hZ (hw _ (List.mem_of_getElem? (i := 62) rfl))) (mvT hZ (hw _ (List.mem_of_getElem? (i := 50) rfl))) (mvT hZ (hw _ (List.mem_of_getElem? (i := 63) rfl))) (by decide) (backOf (W := 0) (rm_fr2 l Z av0 hw [] a0 cK ka kb kc kd h0 n0 Z0 A0) hZ (hw _ (List.mem_of_getElem? (i := 63) rfl)) (hw _ (List.mem_of_getElem? (i := 50) rfl)) (by decide) (by decide)) (g := (mkF m 40 #[.val (.ref a0), .val (.int p1), .val (.int nn33)] [(.int (2 : Int32)), (.ref a0)])) rfl (by rw [hml]; rfl) (argsL := [(.ref a0), (.int (2 : Int32))]) (rest := []) (lenOf own_pd5 rfl) rfl (by show 2 * 0 + _ ≤ _; exact Nat.le_of_eq rfl) (hb hby d8_40) (fun _ _ => ⟨rfl, ej33, (by decide : 0 + 0 ≤ _), (by decide : 0 + 0 ≤ _)⟩)
      refine own_cpsP H8 (c' := 0) (s' := 0) rfl rfl Nj33 (r := (some (.int (own_fr2 ka kb kc kd)))) (h1 := h0) (fun _ _ _ q => q) ?_
      clear H8
      intro T8 L8 X8 N8 e8
      show OGo p e below _ (T8.setTop (mkF m 43 #[.val (.ref a0), .val (.int p1), .val (.int nn33)] [(.int (own_fr2 ka kb kc kd))]))
      by_cases hc43_9 : (own_fr2 ka kb kc kd) = (0 : Int32)
      · refine OGo.by (fun _ k => XS.ifYes X8.here hx rfl (pc0 := 43) (pc' := 49) rfl (hb hby d8_43) rfl ((if0 _ _).trans (teq hc43_9).1) (by decide) (by decide) k) ?_
        show OGo p e below _ (T8.setTop (mkF m 49 #[.val (.ref a0), .val (.int p1), .val (.int nn33)] []))
        exact J49 _ _ nn33 X8 e8 N8 (Eq.symm ((if_pos hc35_7).trans (if_pos hc43_9)))
      · refine OGo.by (fun _ k => XS.ifNo X8.here hx rfl (hb hby d8_43) rfl ((if0 _ _).trans (feq hc43_9).1) k) ?_
        show OGo p e below _ (T8.setTop (mkF m 46 #[.val (.ref a0), .val (.int p1), .val (.int nn33)] []))
        refine OGo.by (fun _ k => XS.iinc X8.here hx rfl (hb hby d8_46) rfl (l' := #[.val (.ref a0), .val (.int p1), .val (.int (nn33 + (1 : Int32)))]) rfl k) ?_
        show OGo p e below _ (T8.setTop (mkF m 49 #[.val (.ref a0), .val (.int p1), .val (.int (nn33 + (1 : Int32)))] []))
        exact J49 _ _ (nn33 + (1 : Int32)) X8 e8 N8 (Eq.symm ((if_pos hc35_7).trans (if_neg hc43_9)))
    · refine OGo.by (fun _ k => XS.icmpYes Xj33.here hx rfl (pc0 := 35) (pc' := 49) rfl (hb hby d8_35) rfl (flt hc35_7).2.2.2 (by decide) (by decide) k) ?_
      show OGo p e below _ (Tj33.setTop (mkF m 49 #[.val (.ref a0), .val (.int p1), .val (.int nn33)] []))
      exact J49 _ _ nn33 Xj33 ej33 Nj33 (Eq.symm (if_neg hc35_7))
  intro Tj49 lj49 nn49 Xj49 ej49 Nj49 hqnn49
  suffices J65 : ∀ (Tj65 : State) (lj65 : List Loc) (nn65 : Int32), Stand p l e ({ frames := 1, cells := 0, slots := 0, locals := 13 } : Room) s m #[(.ref a0), (.int p1)] below meth c Tj65 lj65 0 0 → Tj65.heap = h0 → Fr n0 lj65 → nn65 = (own_bs p1 (3 : Int32) (own_fr3 ka kb kc kd) nn49) → OGo p e below (fun U' o => ∃ v L, o = .returned v ∧ Q_rm_bc Z a0 p1 cK ka kb kc kd h0 n0 v U'.heap L ∧ FrameEnd s o U' L (({ frames := 1, cells := 0, slots := 0, locals := 13 } : Room)).cells (({ frames := 1, cells := 0, slots := 0, locals := 13 } : Room)).slots) (Tj65.setTop (mkF m 65 #[.val (.ref a0), .val (.int p1), .val (.int nn65)] [])) by
    refine OGo.by (fun _ k => XS.iloadN Xj49.here hx rfl (hb hby d8_49) rfl k) ?_
    show OGo p e below _ (Tj49.setTop (mkF m 50 #[.val (.ref a0), .val (.int p1), .val (.int nn49)] [(.int p1)]))
    refine OGo.by (fun _ k => XS.iconst Xj49.here hx rfl (hb hby d8_50) k) ?_
    show OGo p e below _ (Tj49.setTop (mkF m 51 #[.val (.ref a0), .val (.int p1), .val (.int nn49)] [(.int (3 : Int32)), (.int p1)]))
    by_cases hc51_10 : (3 : Int32) < p1
    · refine OGo.by (fun _ k => XS.icmpNo Xj49.here hx rfl (hb hby d8_51) rfl (tlt hc51_10).2.2.2 k) ?_
      show OGo p e below _ (Tj49.setTop (mkF m 54 #[.val (.ref a0), .val (.int p1), .val (.int nn49)] []))
      refine OGo.by (fun _ k => XS.aloadN Xj49.here hx rfl (hb hby d8_54) rfl rfl k) ?_
      show OGo p e below _ (Tj49.setTop (mkF m 55 #[.val (.ref a0), .val (.int p1), .val (.int nn49)] [(.ref a0)]))
      refine OGo.by (fun _ k => XS.iconst Xj49.here hx rfl (hb hby d8_55) k) ?_
      show OGo p e below _ (Tj49.setTop (mkF m 56 #[.val (.ref a0), .val (.int p1), .val (.int nn49)] [(.int (3 : Int32)), (.ref a0)]))
      have H11 := Jvm.LawKit.callS Xj49 hx (y := (⟨"com/example/faces_into_crowds/facesintocrowds/BucketsFirstPinLaw", "fresh", "([II)Z"⟩ : MethodName)) hown (mvT hZ (hw _ (List.mem_of_getElem? (i := 61) rfl))) (mvT hZ (hw _ (List.mem_of_getElem? (i := 62) rfl))) (mvT hZ (hw _ (List.mem_of_getElem? (i := 50) rfl))) (mvT hZ (hw _ (List.mem_of_getElem? (i := 63) rfl))) (by decide) (backOf (W := 0) (rm_fr3 l Z av0 hw [] a0 cK ka kb kc kd h0 n0 Z0 A0) hZ (hw _ (List.mem_of_getElem? (i := 63) rfl)) (hw _ (List.mem_of_getElem? (i := 50) rfl)) (by decide) (by decide)) (g := (mkF m 56 #[.val (.ref a0), .val (.int p1), .val (.int nn49)] [(.int (3 : Int32)), (.ref a0)])) rfl (by rw [hml]; rfl) (argsL := [(.ref a0), (.int (3 : Int32))]) (rest := []) (lenOf own_pd5 rfl) rfl (by show 2 * 0 + _ ≤ _; exact Nat.le_of_eq rfl) (hb hby d8_56) (fun _ _ => ⟨rfl, ej49, (by decide : 0 + 0 ≤ _), (by decide : 0 + 0 ≤ _)⟩)
      refine own_cpsP H11 (c' := 0) (s' := 0) rfl rfl Nj49 (r := (some (.int (own_fr3 ka kb kc kd)))) (h1 := h0) (fun _ _ _ q => q) ?_
      clear H11
      intro T11 L11 X11 N11 e11
      show OGo p e below _ (T11.setTop (mkF m 59 #[.val (.ref a0), .val (.int p1), .val (.int nn49)] [(.int (own_fr3 ka kb kc kd))]))
      by_cases hc59_12 : (own_fr3 ka kb kc kd) = (0 : Int32)
      · refine OGo.by (fun _ k => XS.ifYes X11.here hx rfl (pc0 := 59) (pc' := 65) rfl (hb hby d8_59) rfl ((if0 _ _).trans (teq hc59_12).1) (by decide) (by decide) k) ?_
        show OGo p e below _ (T11.setTop (mkF m 65 #[.val (.ref a0), .val (.int p1), .val (.int nn49)] []))
        exact J65 _ _ nn49 X11 e11 N11 (Eq.symm ((if_pos hc51_10).trans (if_pos hc59_12)))
      · refine OGo.by (fun _ k => XS.ifNo X11.here hx rfl (hb hby d8_59) rfl ((if0 _ _).trans (feq hc59_12).1) k) ?_
        show OGo p e below _ (T11.setTop (mkF m 62 #[.val (.ref a0), .val (.int p1), .val (.int nn49)] []))
        refine OGo.by (fun _ k => XS.iinc X11.here hx rfl (hb hby d8_62) rfl (l' := #[.val (.ref a0), .val (.int p1), .val (.int (nn49 + (1 : Int32)))]) rfl k) ?_
        show OGo p e below _ (T11.setTop (mkF m 65 #[.val (.ref a0), .val (.int p1), .val (.int (nn49 + (1 : Int32)))] []))
        exact J65 _ _ (nn49 + (1 : Int32)) X11 e11 N11 (Eq.symm ((if_pos hc51_10).trans (if_neg hc59_12)))
    · refine OGo.by (fun _ k => XS.icmpYes Xj49.here hx rfl (pc0 := 51) (pc' := 65) rfl (hb hby d8_51) rfl (flt hc51_10).2.2.2 (by decide) (by decide) k) ?_
      show OGo p e below _ (Tj49.setTop (mkF m 65 #[.val (.ref a0), .val (.int p1), .val (.int nn49)] []))
      exact J65 _ _ nn49 Xj49 ej49 Nj49 (Eq.symm (if_neg hc51_10))
  intro Tj65 lj65 nn65 Xj65 ej65 Nj65 hqnn65
  refine OGo.by (fun _ k => XS.iloadN Xj65.here hx rfl (hb hby d8_65) rfl k) ?_
  show OGo p e below _ (Tj65.setTop (mkF m 66 #[.val (.ref a0), .val (.int p1), .val (.int nn65)] [(.int nn65)]))
  obtain ⟨fs, hr, hrun, hended, hW, hsame⟩ := Xj65.leave (v := some (.int nn65)) (fun h => by rw [Bd.returns] at h; cases h)
  refine OGo.ret (retI Xj65 hx Bd.returns (hb hby d8_66) hr) hrun hended ⟨_, _, rfl, ?_, ⟨_, rfl⟩, hW, hsame.mono (by decide) (by decide)⟩
  show Q_rm_bc Z a0 p1 cK ka kb kc kd h0 n0 _ Tj65.heap _
  rw [ej65]
  exact ⟨congrArg (fun z => some (Value.int z)) (by simp only [hqnn17, hqnn33, hqnn49, hqnn65]; rfl), Nj65, rfl⟩
theorem d12_0 : decode method_4_code 0 = .ok (.iconst 0, 1) := by decide +kernel
theorem d12_1 : decode method_4_code 1 = .ok (.istore_n 3, 1) := by decide +kernel
theorem d12_2 : decode method_4_code 2 = .ok (.iconst 0, 1) := by decide +kernel
theorem d12_3 : decode method_4_code 3 = .ok (.istore 4, 2) := by decide +kernel
theorem d12_5 : decode method_4_code 5 = .ok (.iload_n 1, 1) := by decide +kernel
theorem d12_6 : decode method_4_code 6 = .ok (.ifCond .le 22, 3) := by decide +kernel
theorem d12_9 : decode method_4_code 9 = .ok (.aload_n 0, 1) := by decide +kernel
theorem d12_10 : decode method_4_code 10 = .ok (.iconst 0, 1) := by decide +kernel
theorem d12_11 : decode method_4_code 11 = .ok (.invokestatic 7, 3) := by decide +kernel
theorem d12_14 : decode method_4_code 14 = .ok (.ifCond .eq 14, 3) := by decide +kernel
theorem d12_17 : decode method_4_code 17 = .ok (.iload_n 3, 1) := by decide +kernel
theorem d12_18 : decode method_4_code 18 = .ok (.iload_n 2, 1) := by decide +kernel
theorem d12_19 : decode method_4_code 19 = .ok (.if_icmp .ne 6, 3) := by decide +kernel
theorem d12_22 : decode method_4_code 22 = .ok (.iconst 0, 1) := by decide +kernel
theorem d12_23 : decode method_4_code 23 = .ok (.istore 4, 2) := by decide +kernel
theorem d12_25 : decode method_4_code 25 = .ok (.iinc 3 1, 3) := by decide +kernel
theorem d12_28 : decode method_4_code 28 = .ok (.iload_n 1, 1) := by decide +kernel
theorem d12_29 : decode method_4_code 29 = .ok (.iconst 1, 1) := by decide +kernel
theorem d12_30 : decode method_4_code 30 = .ok (.if_icmp .le 22, 3) := by decide +kernel
theorem d12_33 : decode method_4_code 33 = .ok (.aload_n 0, 1) := by decide +kernel
theorem d12_34 : decode method_4_code 34 = .ok (.iconst 1, 1) := by decide +kernel
theorem d12_35 : decode method_4_code 35 = .ok (.invokestatic 7, 3) := by decide +kernel
theorem d12_38 : decode method_4_code 38 = .ok (.ifCond .eq 14, 3) := by decide +kernel
theorem d12_41 : decode method_4_code 41 = .ok (.iload_n 3, 1) := by decide +kernel
theorem d12_42 : decode method_4_code 42 = .ok (.iload_n 2, 1) := by decide +kernel
theorem d12_43 : decode method_4_code 43 = .ok (.if_icmp .ne 6, 3) := by decide +kernel
theorem d12_46 : decode method_4_code 46 = .ok (.iconst 1, 1) := by decide +kernel
theorem d12_47 : decode method_4_code 47 = .ok (.istore 4, 2) := by decide +kernel
theorem d12_49 : decode method_4_code 49 = .ok (.iinc 3 1, 3) := by decide +kernel
theorem d12_52 : decode method_4_code 52 = .ok (.iload_n 1, 1) := by decide +kernel
theorem d12_53 : decode method_4_code 53 = .ok (.iconst 2, 1) := by decide +kernel
theorem d12_54 : decode method_4_code 54 = .ok (.if_icmp .le 22, 3) := by decide +kernel
theorem d12_57 : decode method_4_code 57 = .ok (.aload_n 0, 1) := by decide +kernel
theorem d12_58 : decode method_4_code 58 = .ok (.iconst 2, 1) := by decide +kernel
theorem d12_59 : decode method_4_code 59 = .ok (.invokestatic 7, 3) := by decide +kernel
theorem d12_62 : decode method_4_code 62 = .ok (.ifCond .eq 14, 3) := by decide +kernel
theorem d12_65 : decode method_4_code 65 = .ok (.iload_n 3, 1) := by decide +kernel
theorem d12_66 : decode method_4_code 66 = .ok (.iload_n 2, 1) := by decide +kernel
theorem d12_67 : decode method_4_code 67 = .ok (.if_icmp .ne 6, 3) := by decide +kernel
theorem d12_70 : decode method_4_code 70 = .ok (.iconst 2, 1) := by decide +kernel
theorem d12_71 : decode method_4_code 71 = .ok (.istore 4, 2) := by decide +kernel
theorem d12_73 : decode method_4_code 73 = .ok (.iinc 3 1, 3) := by decide +kernel
theorem d12_76 : decode method_4_code 76 = .ok (.iload_n 1, 1) := by decide +kernel
theorem d12_77 : decode method_4_code 77 = .ok (.iconst 3, 1) := by decide +kernel
theorem d12_78 : decode method_4_code 78 = .ok (.if_icmp .le 22, 3) := by decide +kernel
theorem d12_81 : decode method_4_code 81 = .ok (.aload_n 0, 1) := by decide +kernel
theorem d12_82 : decode method_4_code 82 = .ok (.iconst 3, 1) := by decide +kernel
theorem d12_83 : decode method_4_code 83 = .ok (.invokestatic 7, 3) := by decide +kernel
theorem d12_86 : decode method_4_code 86 = .ok (.ifCond .eq 14, 3) := by decide +kernel
theorem d12_89 : decode method_4_code 89 = .ok (.iload_n 3, 1) := by decide +kernel
theorem d12_90 : decode method_4_code 90 = .ok (.iload_n 2, 1) := by decide +kernel
theorem d12_91 : decode method_4_code 91 = .ok (.if_icmp .ne 6, 3) := by decide +kernel
theorem d12_94 : decode method_4_code 94 = .ok (.iconst 3, 1) := by decide +kernel
theorem d12_95 : decode method_4_code 95 = .ok (.istore 4, 2) := by decide +kernel
theorem d12_97 : decode method_4_code 97 = .ok (.iinc 3 1, 3) := by decide +kernel
theorem d12_100 : decode method_4_code 100 = .ok (.iload 4, 2) := by decide +kernel
theorem d12_102 : decode method_4_code 102 = .ok (.ireturn, 1) := by decide +kernel
theorem own_pn12 : plainName "com/example/faces_into_crowds/facesintocrowds/BucketsFirstPinLaw" = true := by first | (simp [plainName, overriddenIn]; done) | decide +kernel
theorem ef_rm_lo (m : MethodId) (a0 : Addr) (p1 : Int32) (p2 : Int32) : entryFrame m #[(.ref a0), (.int p1), (.int p2)] 5 = mkF m 0 #[.val (.ref a0), .val (.int p1), .val (.int p2), .unset, .unset] [] := by first | (simp [entryFrame, mkF, argsToLocals, Value.category]; done) | rfl
def Q_rm_lo (Z : State) (a0 : Addr) (p1 : Int32) (p2 : Int32) (cK : ClassId) (ka : Int32) (kb : Int32) (kc : Int32) (kd : Int32) (h0 : Heap) (n0 : Nat) (v : Option Value) (h : Heap) (L : List Loc) : Prop := v = some (.int (own_lo p1 p2 ka kb kc kd)) ∧ Fr n0 L ∧ h = h0
set_option maxRecDepth 65536 in
set_option maxHeartbeats 40000000 in
theorem rm_lo (l : Launch) (Z : State) (av0 : Array Value) (hw : ∀ d ∈ tables_1, d.before av0 Z = true) (ws : List Jvm.Cond) (a0 : Addr) (p1 : Int32) (p2 : Int32) (cK : ClassId) (ka : Int32) (kb : Int32) (kc : Int32) (kd : Int32) (h0 : Heap) (n0 : Nat) (Z0 : n0 ≤ h0.size) (A0 : Arv Z h0 a0 cK .int (4 : Int32) [(.int ka), (.int kb), (.int kc), (.int kd)] (.int (0 : Int32))) :
    MetFree l (⟨"com/example/faces_into_crowds/facesintocrowds/BucketsFirstPinLaw", "leaderOf", "([III)I"⟩ : MethodName) (head1 (Jvm.Cond.code (⟨"com/example/faces_into_crowds/facesintocrowds/BucketsFirstPinLaw", "leaderOf", "([III)I"⟩ : MethodName) method_4_code 5 (some .int) :: ws) ({ frames := 1, cells := 0, slots := 0, locals := 13 } : Room)) (fun a U => a = #[(.ref a0), (.int p1), (.int p2)] ∧ Z.Warmed39 U.vm ∧ U.heap = h0) (fun _ _ _ _ _ => True) (fun _ U o U' => ∃ v L, o = .returned v ∧ Q_rm_lo Z a0 p1 p2 cK ka kb kc kd h0 n0 v U'.heap L ∧ FrameEnd U o U' L ({ frames := 1, cells := 0, slots := 0, locals := 13 } : Room).cells ({ frames := 1, cells := 0, slots := 0, locals := 13 } : Room).slots) := by
  refine MetFree.of_bodySF (plainFor_of_name own_pn12) hisR ?_
  intro p e s m args below meth c s₁ Bd hml0 hP hK
  obtain ⟨rfl, hZ, hh⟩ := hP
  have hx := Bd.exec
  have hby := Bd.bytes
  have hml : c.maxLocals = 5 := hml0
  have hown : s.vm.findClass "com/example/faces_into_crowds/facesintocrowds/BucketsFirstPinLaw" = some m.cls := findClass_of_methodNamed Bd.named
  have hnm := (name_of_methodNamed Bd.named Bd.method).1
  have X0 : Stand p l e ({ frames := 1, cells := 0, slots := 0, locals := 13 } : Room) s m #[(.ref a0), (.int p1), (.int p2)] below meth c s₁ [] 0 0 := Stand.of_body Bd
  have e0 : s₁.heap = h0 := by rw [← hh, Bd.state]; rfl
  have N0 := Fr.nil n0
  refine OGo.by (P := fun U' o => ∃ v L, o = .returned v ∧ Q_rm_lo Z a0 p1 p2 cK ka kb kc kd h0 n0 v U'.heap L ∧ FrameEnd s o U' L ({ frames := 1, cells := 0, slots := 0, locals := 13 } : Room).cells ({ frames := 1, cells := 0, slots := 0, locals := 13 } : Room).slots) (fun T_ k_ => castTop (ef_rm_lo m a0 p1 p2) k_) ?_
  show OGo p e below _ (s₁.setTop (mkF m 0 #[.val (.ref a0), .val (.int p1), .val (.int p2), .unset, .unset] []))
  refine OGo.by (fun _ k => XS.iconst X0.here hx rfl (hb hby d12_0) k) ?_
  show OGo p e below _ (s₁.setTop (mkF m 1 #[.val (.ref a0), .val (.int p1), .val (.int p2), .unset, .unset] [(.int (0 : Int32))]))
  refine OGo.by (fun _ k => XS.istoreN X0.here hx rfl (hb hby d12_1) rfl (l' := #[.val (.ref a0), .val (.int p1), .val (.int p2), .val (.int (0 : Int32)), .unset]) rfl k) ?_
  show OGo p e below _ (s₁.setTop (mkF m 2 #[.val (.ref a0), .val (.int p1), .val (.int p2), .val (.int (0 : Int32)), .unset] []))
  refine OGo.by (fun _ k => XS.iconst X0.here hx rfl (hb hby d12_2) k) ?_
  show OGo p e below _ (s₁.setTop (mkF m 3 #[.val (.ref a0), .val (.int p1), .val (.int p2), .val (.int (0 : Int32)), .unset] [(.int (0 : Int32))]))
  refine OGo.by (fun _ k => XS.istore X0.here hx rfl (hb hby d12_3) rfl (l' := #[.val (.ref a0), .val (.int p1), .val (.int p2), .val (.int (0 : Int32)), .val (.int (0 : Int32))]) rfl k) ?_
  show OGo p e below _ (s₁.setTop (mkF m 5 #[.val (.ref a0), .val (.int p1), .val (.int p2), .val (.int (0 : Int32)), .val (.int (0 : Int32))] []))
  suffices J28 : ∀ (Tj28 : State) (lj28 : List Loc) (r28 ld28 : Int32), Stand p l e ({ frames := 1, cells := 0, slots := 0, locals := 13 } : Room) s m #[(.ref a0), (.int p1), (.int p2)] below meth c Tj28 lj28 0 0 → Tj28.heap = h0 → Fr n0 lj28 → r28 = (own_bs p1 (0 : Int32) (own_fr0 ka kb kc kd) (0 : Int32)) → ld28 = (own_ls p1 (0 : Int32) (own_fr0 ka kb kc kd) (0 : Int32) p2 (0 : Int32)) → OGo p e below (fun U' o => ∃ v L, o = .returned v ∧ Q_rm_lo Z a0 p1 p2 cK ka kb kc kd h0 n0 v U'.heap L ∧ FrameEnd s o U' L (({ frames := 1, cells := 0, slots := 0, locals := 13 } : Room)).cells (({ frames := 1, cells := 0, slots := 0, locals := 13 } : Room)).slots) (Tj28.setTop (mkF m 28 #[.val (.ref a0), .val (.int p1), .val (.int p2), .val (.int r28), .val (.int ld28)] [])) by
    refine OGo.by (fun _ k => XS.iloadN X0.here hx rfl (hb hby d12_5) rfl k) ?_
    show OGo p e below _ (s₁.setTop (mkF m 6 #[.val (.ref a0), .val (.int p1), .val (.int p2), .val (.int (0 : Int32)), .val (.int (0 : Int32))] [(.int p1)]))
    by_cases hc6_1 : (0 : Int32) < p1
    · refine OGo.by (fun _ k => XS.ifNo X0.here hx rfl (hb hby d12_6) rfl ((if0 _ _).trans (tlt hc6_1).2.2.2) k) ?_
      show OGo p e below _ (s₁.setTop (mkF m 9 #[.val (.ref a0), .val (.int p1), .val (.int p2), .val (.int (0 : Int32)), .val (.int (0 : Int32))] []))
      refine OGo.by (fun _ k => XS.aloadN X0.here hx rfl (hb hby d12_9) rfl rfl k) ?_
      show OGo p e below _ (s₁.setTop (mkF m 10 #[.val (.ref a0), .val (.int p1), .val (.int p2), .val (.int (0 : Int32)), .val (.int (0 : Int32))] [(.ref a0)]))
      refine OGo.by (fun _ k => XS.iconst X0.here hx rfl (hb hby d12_10) k) ?_
      show OGo p e below _ (s₁.setTop (mkF m 11 #[.val (.ref a0), .val (.int p1), .val (.int p2), .val (.int (0 : Int32)), .val (.int (0 : Int32))] [(.int (0 : Int32)), (.ref a0)]))
      have H2 := Jvm.LawKit.callS X0 hx (y := (⟨"com/example/faces_into_crowds/facesintocrowds/BucketsFirstPinLaw", "fresh", "([II)Z"⟩ : MethodName)) hown (mvT hZ (hw _ (List.mem_of_getElem? (i := 61) rfl))) (mvT hZ (hw _ (List.mem_of_getElem? (i := 62) rfl))) (mvT hZ (hw _ (List.mem_of_getElem? (i := 50) rfl))) (mvT hZ (hw _ (List.mem_of_getElem? (i := 63) rfl))) (by decide) (backOf (W := 0) (rm_fr0 l Z av0 hw [] a0 cK ka kb kc kd h0 n0 Z0 A0) hZ (hw _ (List.mem_of_getElem? (i := 63) rfl)) (hw _ (List.mem_of_getElem? (i := 50) rfl)) (by decide) (by decide)) (g := (mkF m 11 #[.val (.ref a0), .val (.int p1), .val (.int p2), .val (.int (0 : Int32)), .val (.int (0 : Int32))] [(.int (0 : Int32)), (.ref a0)])) rfl (by rw [hml]; rfl) (argsL := [(.ref a0), (.int (0 : Int32))]) (rest := []) (lenOf own_pd5 rfl) rfl (by show 2 * 0 + _ ≤ _; exact Nat.le_of_eq rfl) (hb hby d12_11) (fun _ _ => ⟨rfl, e0, (by decide : 0 + 0 ≤ _), (by decide : 0 + 0 ≤ _)⟩)
      refine own_cpsP H2 (c' := 0) (s' := 0) rfl rfl N0 (r := (some (.int (own_fr0 ka kb kc kd)))) (h1 := h0) (fun _ _ _ q => q) ?_
      clear H2
      intro T2 L2 X2 N2 e2
      show OGo p e below _ (T2.setTop (mkF m 14 #[.val (.ref a0), .val (.int p1), .val (.int p2), .val (.int (0 : Int32)), .val (.int (0 : Int32))] [(.int (own_fr0 ka kb kc kd))]))
      by_cases hc14_3 : (own_fr0 ka kb kc kd) = (0 : Int32)
      · refine OGo.by (fun _ k => XS.ifYes X2.here hx rfl (pc0 := 14) (pc' := 28) rfl (hb hby d12_14) rfl ((if0 _ _).trans (teq hc14_3).1) (by decide) (by decide) k) ?_
        show OGo p e below _ (T2.setTop (mkF m 28 #[.val (.ref a0), .val (.int p1), .val (.int p2), .val (.int (0 : Int32)), .val (.int (0 : Int32))] []))
        exact J28 _ _ (0 : Int32) (0 : Int32) X2 e2 N2 (Eq.symm ((if_pos hc6_1).trans (if_pos hc14_3))) (Eq.symm ((if_pos hc6_1).trans (if_pos hc14_3)))
      · refine OGo.by (fun _ k => XS.ifNo X2.here hx rfl (hb hby d12_14) rfl ((if0 _ _).trans (feq hc14_3).1) k) ?_
        show OGo p e below _ (T2.setTop (mkF m 17 #[.val (.ref a0), .val (.int p1), .val (.int p2), .val (.int (0 : Int32)), .val (.int (0 : Int32))] []))
        refine OGo.by (fun _ k => XS.iloadN X2.here hx rfl (hb hby d12_17) rfl k) ?_
        show OGo p e below _ (T2.setTop (mkF m 18 #[.val (.ref a0), .val (.int p1), .val (.int p2), .val (.int (0 : Int32)), .val (.int (0 : Int32))] [(.int (0 : Int32))]))
        refine OGo.by (fun _ k => XS.iloadN X2.here hx rfl (hb hby d12_18) rfl k) ?_
        show OGo p e below _ (T2.setTop (mkF m 19 #[.val (.ref a0), .val (.int p1), .val (.int p2), .val (.int (0 : Int32)), .val (.int (0 : Int32))] [(.int p2), (.int (0 : Int32))]))
        by_cases hc19_4 : (0 : Int32) = p2
        · refine OGo.by (fun _ k => XS.icmpNo X2.here hx rfl (hb hby d12_19) rfl (teq hc19_4).2 k) ?_
          show OGo p e below _ (T2.setTop (mkF m 22 #[.val (.ref a0), .val (.int p1), .val (.int p2), .val (.int (0 : Int32)), .val (.int (0 : Int32))] []))
          refine OGo.by (fun _ k => XS.iconst X2.here hx rfl (hb hby d12_22) k) ?_
          show OGo p e below _ (T2.setTop (mkF m 23 #[.val (.ref a0), .val (.int p1), .val (.int p2), .val (.int (0 : Int32)), .val (.int (0 : Int32))] [(.int (0 : Int32))]))
          refine OGo.by (fun _ k => XS.istore X2.here hx rfl (hb hby d12_23) rfl (l' := #[.val (.ref a0), .val (.int p1), .val (.int p2), .val (.int (0 : Int32)), .val (.int (0 : Int32))]) rfl k) ?_
          show OGo p e below _ (T2.setTop (mkF m 25 #[.val (.ref a0), .val (.int p1), .val (.int p2), .val (.int (0 : Int32)), .val (.int (0 : Int32))] []))
          refine OGo.by (fun _ k => XS.iinc X2.here hx rfl (hb hby d12_25) rfl (l' := #[.val (.ref a0), .val (.int p1), .val (.int p2), .val (.int ((0 : Int32) + (1 : Int32))), .val (.int (0 : Int32))]) rfl k) ?_
          show OGo p e below _ (T2.setTop (mkF m 28 #[.val (.ref a0), .val (.int p1), .val (.int p2), .val (.int ((0 : Int32) + (1 : Int32))), .val (.int (0 : Int32))] []))
          exact J28 _ _ ((0 : Int32) + (1 : Int32)) (0 : Int32) X2 e2 N2 (Eq.symm ((if_pos hc6_1).trans (if_neg hc14_3))) (Eq.symm ((if_pos hc6_1).trans ((if_neg hc14_3).trans (if_pos hc19_4))))
        · refine OGo.by (fun _ k => XS.icmpYes X2.here hx rfl (pc0 := 19) (pc' := 25) rfl (hb hby d12_19) rfl (feq hc19_4).2 (by decide) (by decide) k) ?_
          show OGo p e below _ (T2.setTop (mkF m 25 #[.val (.ref a0), .val (.int p1), .val (.int p2), .val (.int (0 : Int32)), .val (.int (0 : Int32))] []))
          refine OGo.by (fun _ k => XS.iinc X2.here hx rfl (hb hby d12_25) rfl (l' := #[.val (.ref a0), .val (.int p1), .val (.int p2), .val (.int ((0 : Int32) + (1 : Int32))), .val (.int (0 : Int32))]) rfl k) ?_
          show OGo p e below _ (T2.setTop (mkF m 28 #[.val (.ref a0), .val (.int p1), .val (.int p2), .val (.int ((0 : Int32) + (1 : Int32))), .val (.int (0 : Int32))] []))
          exact J28 _ _ ((0 : Int32) + (1 : Int32)) (0 : Int32) X2 e2 N2 (Eq.symm ((if_pos hc6_1).trans (if_neg hc14_3))) (Eq.symm ((if_pos hc6_1).trans ((if_neg hc14_3).trans (if_neg hc19_4))))
    · refine OGo.by (fun _ k => XS.ifYes X0.here hx rfl (pc0 := 6) (pc' := 28) rfl (hb hby d12_6) rfl ((if0 _ _).trans (flt hc6_1).2.2.2) (by decide) (by decide) k) ?_
      show OGo p e below _ (s₁.setTop (mkF m 28 #[.val (.ref a0), .val (.int p1), .val (.int p2), .val (.int (0 : Int32)), .val (.int (0 : Int32))] []))
      exact J28 _ _ (0 : Int32) (0 : Int32) X0 e0 N0 (Eq.symm (if_neg hc6_1)) (Eq.symm (if_neg hc6_1))
  intro Tj28 lj28 r28 ld28 Xj28 ej28 Nj28 hqr28 hqld28
  suffices J52 : ∀ (Tj52 : State) (lj52 : List Loc) (r52 ld52 : Int32), Stand p l e ({ frames := 1, cells := 0, slots := 0, locals := 13 } : Room) s m #[(.ref a0), (.int p1), (.int p2)] below meth c Tj52 lj52 0 0 → Tj52.heap = h0 → Fr n0 lj52 → r52 = (own_bs p1 (1 : Int32) (own_fr1 ka kb kc kd) r28) → ld52 = (own_ls p1 (1 : Int32) (own_fr1 ka kb kc kd) r28 p2 ld28) → OGo p e below (fun U' o => ∃ v L, o = .returned v ∧ Q_rm_lo Z a0 p1 p2 cK ka kb kc kd h0 n0 v U'.heap L ∧ FrameEnd s o U' L (({ frames := 1, cells := 0, slots := 0, locals := 13 } : Room)).cells (({ frames := 1, cells := 0, slots := 0, locals := 13 } : Room)).slots) (Tj52.setTop (mkF m 52 #[.val (.ref a0), .val (.int p1), .val (.int p2), .val (.int r52), .val (.int ld52)] [])) by
    refine OGo.by (fun _ k => XS.iloadN Xj28.here hx rfl (hb hby d12_28) rfl k) ?_
    show OGo p e below _ (Tj28.setTop (mkF m 29 #[.val (.ref a0), .val (.int p1), .val (.int p2), .val (.int r28), .val (.int ld28)] [(.int p1)]))
    refine OGo.by (fun _ k => XS.iconst Xj28.here hx rfl (hb hby d12_29) k) ?_
    show OGo p e below _ (Tj28.setTop (mkF m 30 #[.val (.ref a0), .val (.int p1), .val (.int p2), .val (.int r28), .val (.int ld28)] [(.int (1 : Int32)), (.int p1)]))
    by_cases hc30_5 : (1 : Int32) < p1
    · refine OGo.by (fun _ k => XS.icmpNo Xj28.here hx rfl (hb hby d12_30) rfl (tlt hc30_5).2.2.2 k) ?_
      show OGo p e below _ (Tj28.setTop (mkF m 33 #[.val (.ref a0), .val (.int p1), .val (.int p2), .val (.int r28), .val (.int ld28)] []))
      refine OGo.by (fun _ k => XS.aloadN Xj28.here hx rfl (hb hby d12_33) rfl rfl k) ?_
      show OGo p e below _ (Tj28.setTop (mkF m 34 #[.val (.ref a0), .val (.int p1), .val (.int p2), .val (.int r28), .val (.int ld28)] [(.ref a0)]))
      refine OGo.by (fun _ k => XS.iconst Xj28.here hx rfl (hb hby d12_34) k) ?_
      show OGo p e below _ (Tj28.setTop (mkF m 35 #[.val (.ref a0), .val (.int p1), .val (.int p2), .val (.int r28), .val (.int ld28)] [(.int (1 : Int32)), (.ref a0)]))
      have H6 := Jvm.LawKit.callS Xj28 hx (y := (⟨"com/example/faces_into_crowds/facesintocrowds/BucketsFirstPinLaw", "fresh", "([II)Z"⟩ : MethodName)) hown (mvT hZ (hw _ (List.mem_of_getElem? (i := 61) rfl))) (mvT hZ (hw _ (List.mem_of_getElem? (i := 62) rfl))) (mvT hZ (hw _ (List.mem_of_getElem? (i := 50) rfl))) (mvT hZ (hw _ (List.mem_of_getElem? (i := 63) rfl))) (by decide) (backOf (W := 0) (rm_fr1 l Z av0 hw [] a0 cK ka kb kc kd h0 n0 Z0 A0) hZ (hw _ (List.mem_of_getElem? (i := 63) rfl)) (hw _ (List.mem_of_getElem? (i := 50) rfl)) (by decide) (by decide)) (g := (mkF m 35 #[.val (.ref a0), .val (.int p1), .val (.int p2), .val (.int r28), .val (.int ld28)] [(.int (1 : Int32)), (.ref a0)])) rfl (by rw [hml]; rfl) (argsL := [(.ref a0), (.int (1 : Int32))]) (rest := []) (lenOf own_pd5 rfl) rfl (by show 2 * 0 + _ ≤ _; exact Nat.le_of_eq rfl) (hb hby d12_35) (fun _ _ => ⟨rfl, ej28, (by decide : 0 + 0 ≤ _), (by decide : 0 + 0 ≤ _)⟩)
      refine own_cpsP H6 (c' := 0) (s' := 0) rfl rfl Nj28 (r := (some (.int (own_fr1 ka kb kc kd)))) (h1 := h0) (fun _ _ _ q => q) ?_
      clear H6
      intro T6 L6 X6 N6 e6
      show OGo p e below _ (T6.setTop (mkF m 38 #[.val (.ref a0), .val (.int p1), .val (.int p2), .val (.int r28), .val (.int ld28)] [(.int (own_fr1 ka kb kc kd))]))
      by_cases hc38_7 : (own_fr1 ka kb kc kd) = (0 : Int32)
      · refine OGo.by (fun _ k => XS.ifYes X6.here hx rfl (pc0 := 38) (pc' := 52) rfl (hb hby d12_38) rfl ((if0 _ _).trans (teq hc38_7).1) (by decide) (by decide) k) ?_
        show OGo p e below _ (T6.setTop (mkF m 52 #[.val (.ref a0), .val (.int p1), .val (.int p2), .val (.int r28), .val (.int ld28)] []))
        exact J52 _ _ r28 ld28 X6 e6 N6 (Eq.symm ((if_pos hc30_5).trans (if_pos hc38_7))) (Eq.symm ((if_pos hc30_5).trans (if_pos hc38_7)))
      · refine OGo.by (fun _ k => XS.ifNo X6.here hx rfl (hb hby d12_38) rfl ((if0 _ _).trans (feq hc38_7).1) k) ?_
        show OGo p e below _ (T6.setTop (mkF m 41 #[.val (.ref a0), .val (.int p1), .val (.int p2), .val (.int r28), .val (.int ld28)] []))
        refine OGo.by (fun _ k => XS.iloadN X6.here hx rfl (hb hby d12_41) rfl k) ?_
        show OGo p e below _ (T6.setTop (mkF m 42 #[.val (.ref a0), .val (.int p1), .val (.int p2), .val (.int r28), .val (.int ld28)] [(.int r28)]))
        refine OGo.by (fun _ k => XS.iloadN X6.here hx rfl (hb hby d12_42) rfl k) ?_
        show OGo p e below _ (T6.setTop (mkF m 43 #[.val (.ref a0), .val (.int p1), .val (.int p2), .val (.int r28), .val (.int ld28)] [(.int p2), (.int r28)]))
        by_cases hc43_8 : r28 = p2
        · refine OGo.by (fun _ k => XS.icmpNo X6.here hx rfl (hb hby d12_43) rfl (teq hc43_8).2 k) ?_
          show OGo p e below _ (T6.setTop (mkF m 46 #[.val (.ref a0), .val (.int p1), .val (.int p2), .val (.int r28), .val (.int ld28)] []))
          refine OGo.by (fun _ k => XS.iconst X6.here hx rfl (hb hby d12_46) k) ?_
          show OGo p e below _ (T6.setTop (mkF m 47 #[.val (.ref a0), .val (.int p1), .val (.int p2), .val (.int r28), .val (.int ld28)] [(.int (1 : Int32))]))
          refine OGo.by (fun _ k => XS.istore X6.here hx rfl (hb hby d12_47) rfl (l' := #[.val (.ref a0), .val (.int p1), .val (.int p2), .val (.int r28), .val (.int (1 : Int32))]) rfl k) ?_
          show OGo p e below _ (T6.setTop (mkF m 49 #[.val (.ref a0), .val (.int p1), .val (.int p2), .val (.int r28), .val (.int (1 : Int32))] []))
          refine OGo.by (fun _ k => XS.iinc X6.here hx rfl (hb hby d12_49) rfl (l' := #[.val (.ref a0), .val (.int p1), .val (.int p2), .val (.int (r28 + (1 : Int32))), .val (.int (1 : Int32))]) rfl k) ?_
          show OGo p e below _ (T6.setTop (mkF m 52 #[.val (.ref a0), .val (.int p1), .val (.int p2), .val (.int (r28 + (1 : Int32))), .val (.int (1 : Int32))] []))
          exact J52 _ _ (r28 + (1 : Int32)) (1 : Int32) X6 e6 N6 (Eq.symm ((if_pos hc30_5).trans (if_neg hc38_7))) (Eq.symm ((if_pos hc30_5).trans ((if_neg hc38_7).trans (if_pos hc43_8))))
        · refine OGo.by (fun _ k => XS.icmpYes X6.here hx rfl (pc0 := 43) (pc' := 49) rfl (hb hby d12_43) rfl (feq hc43_8).2 (by decide) (by decide) k) ?_
          show OGo p e below _ (T6.setTop (mkF m 49 #[.val (.ref a0), .val (.int p1), .val (.int p2), .val (.int r28), .val (.int ld28)] []))
          refine OGo.by (fun _ k => XS.iinc X6.here hx rfl (hb hby d12_49) rfl (l' := #[.val (.ref a0), .val (.int p1), .val (.int p2), .val (.int (r28 + (1 : Int32))), .val (.int ld28)]) rfl k) ?_
          show OGo p e below _ (T6.setTop (mkF m 52 #[.val (.ref a0), .val (.int p1), .val (.int p2), .val (.int (r28 + (1 : Int32))), .val (.int ld28)] []))
          exact J52 _ _ (r28 + (1 : Int32)) ld28 X6 e6 N6 (Eq.symm ((if_pos hc30_5).trans (if_neg hc38_7))) (Eq.symm ((if_pos hc30_5).trans ((if_neg hc38_7).trans (if_neg hc43_8))))
    · refine OGo.by (fun _ k => XS.icmpYes Xj28.here hx rfl (pc0 := 30) (pc' := 52) rfl (hb hby d12_30) rfl (flt hc30_5).2.2.2 (by decide) (by decide) k) ?_
      show OGo p e below _ (Tj28.setTop (mkF m 52 #[.val (.ref a0), .val (.int p1), .val (.int p2), .val (.int r28), .val (.int ld28)] []))
      exact J52 _ _ r28 ld28 Xj28 ej28 Nj28 (Eq.symm (if_neg hc30_5)) (Eq.symm (if_neg hc30_5))
  intro Tj52 lj52 r52 ld52 Xj52 ej52 Nj52 hqr52 hqld52
  suffices J76 : ∀ (Tj76 : State) (lj76 : List Loc) (r76 ld76 : Int32), Stand p l e ({ frames := 1, cells := 0, slots := 0, locals := 13 } : Room) s m #[(.ref a0), (.int p1), (.int p2)] below meth c Tj76 lj76 0 0 → Tj76.heap = h0 → Fr n0 lj76 → r76 = (own_bs p1 (2 : Int32) (own_fr2 ka kb kc kd) r52) → ld76 = (own_ls p1 (2 : Int32) (own_fr2 ka kb kc kd) r52 p2 ld52) → OGo p e below (fun U' o => ∃ v L, o = .returned v ∧ Q_rm_lo Z a0 p1 p2 cK ka kb kc kd h0 n0 v U'.heap L ∧ FrameEnd s o U' L (({ frames := 1, cells := 0, slots := 0, locals := 13 } : Room)).cells (({ frames := 1, cells := 0, slots := 0, locals := 13 } : Room)).slots) (Tj76.setTop (mkF m 76 #[.val (.ref a0), .val (.int p1), .val (.int p2), .val (.int r76), .val (.int ld76)] [])) by
    refine OGo.by (fun _ k => XS.iloadN Xj52.here hx rfl (hb hby d12_52) rfl k) ?_
    show OGo p e below _ (Tj52.setTop (mkF m 53 #[.val (.ref a0), .val (.int p1), .val (.int p2), .val (.int r52), .val (.int ld52)] [(.int p1)]))
    refine OGo.by (fun _ k => XS.iconst Xj52.here hx rfl (hb hby d12_53) k) ?_
    show OGo p e below _ (Tj52.setTop (mkF m 54 #[.val (.ref a0), .val (.int p1), .val (.int p2), .val (.int r52), .val (.int ld52)] [(.int (2 : Int32)), (.int p1)]))
    by_cases hc54_9 : (2 : Int32) < p1
    · refine OGo.by (fun _ k => XS.icmpNo Xj52.here hx rfl (hb hby d12_54) rfl (tlt hc54_9).2.2.2 k) ?_
      show OGo p e below _ (Tj52.setTop (mkF m 57 #[.val (.ref a0), .val (.int p1), .val (.int p2), .val (.int r52), .val (.int ld52)] []))
      refine OGo.by (fun _ k => XS.aloadN Xj52.here hx rfl (hb hby d12_57) rfl rfl k) ?_
      show OGo p e below _ (Tj52.setTop (mkF m 58 #[.val (.ref a0), .val (.int p1), .val (.int p2), .val (.int r52), .val (.int ld52)] [(.ref a0)]))
      refine OGo.by (fun _ k => XS.iconst Xj52.here hx rfl (hb hby d12_58) k) ?_
      show OGo p e below _ (Tj52.setTop (mkF m 59 #[.val (.ref a0), .val (.int p1), .val (.int p2), .val (.int r52), .val (.int ld52)] [(.int (2 : Int32)), (.ref a0)]))
      have H10 := Jvm.LawKit.callS Xj52 hx (y := (⟨"com/example/faces_into_crowds/facesintocrowds/BucketsFirstPinLaw", "fresh", "([II)Z"⟩ : MethodName)) hown (mvT hZ (hw _ (List.mem_of_getElem? (i := 61) rfl))) (mvT hZ (hw _ (List.mem_of_getElem? (i := 62) rfl))) (mvT hZ (hw _ (List.mem_of_getElem? (i := 50) rfl))) (mvT hZ (hw _ (List.mem_of_getElem? (i := 63) rfl))) (by decide) (backOf (W := 0) (rm_fr2 l Z av0 hw [] a0 cK ka kb kc kd h0 n0 Z0 A0) hZ (hw _ (List.mem_of_getElem? (i := 63) rfl)) (hw _ (List.mem_of_getElem? (i := 50) rfl)) (by decide) (by decide)) (g := (mkF m 59 #[.val (.ref a0), .val (.int p1), .val (.int p2), .val (.int r52), .val (.int ld52)] [(.int (2 : Int32)), (.ref a0)])) rfl (by rw [hml]; rfl) (argsL := [(.ref a0), (.int (2 : Int32))]) (rest := []) (lenOf own_pd5 rfl) rfl (by show 2 * 0 + _ ≤ _; exact Nat.le_of_eq rfl) (hb hby d12_59) (fun _ _ => ⟨rfl, ej52, (by decide : 0 + 0 ≤ _), (by decide : 0 + 0 ≤ _)⟩)
      refine own_cpsP H10 (c' := 0) (s' := 0) rfl rfl Nj52 (r := (some (.int (own_fr2 ka kb kc kd)))) (h1 := h0) (fun _ _ _ q => q) ?_
      clear H10
      intro T10 L10 X10 N10 e10
      show OGo p e below _ (T10.setTop (mkF m 62 #[.val (.ref a0), .val (.int p1), .val (.int p2), .val (.int r52), .val (.int ld52)] [(.int (own_fr2 ka kb kc kd))]))
      by_cases hc62_11 : (own_fr2 ka kb kc kd) = (0 : Int32)
      · refine OGo.by (fun _ k => XS.ifYes X10.here hx rfl (pc0 := 62) (pc' := 76) rfl (hb hby d12_62) rfl ((if0 _ _).trans (teq hc62_11).1) (by decide) (by decide) k) ?_
        show OGo p e below _ (T10.setTop (mkF m 76 #[.val (.ref a0), .val (.int p1), .val (.int p2), .val (.int r52), .val (.int ld52)] []))
        exact J76 _ _ r52 ld52 X10 e10 N10 (Eq.symm ((if_pos hc54_9).trans (if_pos hc62_11))) (Eq.symm ((if_pos hc54_9).trans (if_pos hc62_11)))
      · refine OGo.by (fun _ k => XS.ifNo X10.here hx rfl (hb hby d12_62) rfl ((if0 _ _).trans (feq hc62_11).1) k) ?_
        show OGo p e below _ (T10.setTop (mkF m 65 #[.val (.ref a0), .val (.int p1), .val (.int p2), .val (.int r52), .val (.int ld52)] []))
        refine OGo.by (fun _ k => XS.iloadN X10.here hx rfl (hb hby d12_65) rfl k) ?_
        show OGo p e below _ (T10.setTop (mkF m 66 #[.val (.ref a0), .val (.int p1), .val (.int p2), .val (.int r52), .val (.int ld52)] [(.int r52)]))
        refine OGo.by (fun _ k => XS.iloadN X10.here hx rfl (hb hby d12_66) rfl k) ?_
        show OGo p e below _ (T10.setTop (mkF m 67 #[.val (.ref a0), .val (.int p1), .val (.int p2), .val (.int r52), .val (.int ld52)] [(.int p2), (.int r52)]))
        by_cases hc67_12 : r52 = p2
        · refine OGo.by (fun _ k => XS.icmpNo X10.here hx rfl (hb hby d12_67) rfl (teq hc67_12).2 k) ?_
          show OGo p e below _ (T10.setTop (mkF m 70 #[.val (.ref a0), .val (.int p1), .val (.int p2), .val (.int r52), .val (.int ld52)] []))
          refine OGo.by (fun _ k => XS.iconst X10.here hx rfl (hb hby d12_70) k) ?_
          show OGo p e below _ (T10.setTop (mkF m 71 #[.val (.ref a0), .val (.int p1), .val (.int p2), .val (.int r52), .val (.int ld52)] [(.int (2 : Int32))]))
          refine OGo.by (fun _ k => XS.istore X10.here hx rfl (hb hby d12_71) rfl (l' := #[.val (.ref a0), .val (.int p1), .val (.int p2), .val (.int r52), .val (.int (2 : Int32))]) rfl k) ?_
          show OGo p e below _ (T10.setTop (mkF m 73 #[.val (.ref a0), .val (.int p1), .val (.int p2), .val (.int r52), .val (.int (2 : Int32))] []))
          refine OGo.by (fun _ k => XS.iinc X10.here hx rfl (hb hby d12_73) rfl (l' := #[.val (.ref a0), .val (.int p1), .val (.int p2), .val (.int (r52 + (1 : Int32))), .val (.int (2 : Int32))]) rfl k) ?_
          show OGo p e below _ (T10.setTop (mkF m 76 #[.val (.ref a0), .val (.int p1), .val (.int p2), .val (.int (r52 + (1 : Int32))), .val (.int (2 : Int32))] []))
          exact J76 _ _ (r52 + (1 : Int32)) (2 : Int32) X10 e10 N10 (Eq.symm ((if_pos hc54_9).trans (if_neg hc62_11))) (Eq.symm ((if_pos hc54_9).trans ((if_neg hc62_11).trans (if_pos hc67_12))))
        · refine OGo.by (fun _ k => XS.icmpYes X10.here hx rfl (pc0 := 67) (pc' := 73) rfl (hb hby d12_67) rfl (feq hc67_12).2 (by decide) (by decide) k) ?_
          show OGo p e below _ (T10.setTop (mkF m 73 #[.val (.ref a0), .val (.int p1), .val (.int p2), .val (.int r52), .val (.int ld52)] []))
          refine OGo.by (fun _ k => XS.iinc X10.here hx rfl (hb hby d12_73) rfl (l' := #[.val (.ref a0), .val (.int p1), .val (.int p2), .val (.int (r52 + (1 : Int32))), .val (.int ld52)]) rfl k) ?_
          show OGo p e below _ (T10.setTop (mkF m 76 #[.val (.ref a0), .val (.int p1), .val (.int p2), .val (.int (r52 + (1 : Int32))), .val (.int ld52)] []))
          exact J76 _ _ (r52 + (1 : Int32)) ld52 X10 e10 N10 (Eq.symm ((if_pos hc54_9).trans (if_neg hc62_11))) (Eq.symm ((if_pos hc54_9).trans ((if_neg hc62_11).trans (if_neg hc67_12))))
    · refine OGo.by (fun _ k => XS.icmpYes Xj52.here hx rfl (pc0 := 54) (pc' := 76) rfl (hb hby d12_54) rfl (flt hc54_9).2.2.2 (by decide) (by decide) k) ?_
      show OGo p e below _ (Tj52.setTop (mkF m 76 #[.val (.ref a0), .val (.int p1), .val (.int p2), .val (.int r52), .val (.int ld52)] []))
      exact J76 _ _ r52 ld52 Xj52 ej52 Nj52 (Eq.symm (if_neg hc54_9)) (Eq.symm (if_neg hc54_9))
  intro Tj76 lj76 r76 ld76 Xj76 ej76 Nj76 hqr76 hqld76
  suffices J100 : ∀ (Tj100 : State) (lj100 : List Loc) (r100 ld100 : Int32), Stand p l e ({ frames := 1, cells := 0, slots := 0, locals := 13 } : Room) s m #[(.ref a0), (.int p1), (.int p2)] below meth c Tj100 lj100 0 0 → Tj100.heap = h0 → Fr n0 lj100 → r100 = (own_bs p1 (3 : Int32) (own_fr3 ka kb kc kd) r76) → ld100 = (own_ls p1 (3 : Int32) (own_fr3 ka kb kc kd) r76 p2 ld76) → OGo p e below (fun U' o => ∃ v L, o = .returned v ∧ Q_rm_lo Z a0 p1 p2 cK ka kb kc kd h0 n0 v U'.heap L ∧ FrameEnd s o U' L (({ frames := 1, cells := 0, slots := 0, locals := 13 } : Room)).cells (({ frames := 1, cells := 0, slots := 0, locals := 13 } : Room)).slots) (Tj100.setTop (mkF m 100 #[.val (.ref a0), .val (.int p1), .val (.int p2), .val (.int r100), .val (.int ld100)] [])) by
    refine OGo.by (fun _ k => XS.iloadN Xj76.here hx rfl (hb hby d12_76) rfl k) ?_
    show OGo p e below _ (Tj76.setTop (mkF m 77 #[.val (.ref a0), .val (.int p1), .val (.int p2), .val (.int r76), .val (.int ld76)] [(.int p1)]))
    refine OGo.by (fun _ k => XS.iconst Xj76.here hx rfl (hb hby d12_77) k) ?_
    show OGo p e below _ (Tj76.setTop (mkF m 78 #[.val (.ref a0), .val (.int p1), .val (.int p2), .val (.int r76), .val (.int ld76)] [(.int (3 : Int32)), (.int p1)]))
    by_cases hc78_13 : (3 : Int32) < p1
    · refine OGo.by (fun _ k => XS.icmpNo Xj76.here hx rfl (hb hby d12_78) rfl (tlt hc78_13).2.2.2 k) ?_
      show OGo p e below _ (Tj76.setTop (mkF m 81 #[.val (.ref a0), .val (.int p1), .val (.int p2), .val (.int r76), .val (.int ld76)] []))
      refine OGo.by (fun _ k => XS.aloadN Xj76.here hx rfl (hb hby d12_81) rfl rfl k) ?_
      show OGo p e below _ (Tj76.setTop (mkF m 82 #[.val (.ref a0), .val (.int p1), .val (.int p2), .val (.int r76), .val (.int ld76)] [(.ref a0)]))
      refine OGo.by (fun _ k => XS.iconst Xj76.here hx rfl (hb hby d12_82) k) ?_
      show OGo p e below _ (Tj76.setTop (mkF m 83 #[.val (.ref a0), .val (.int p1), .val (.int p2), .val (.int r76), .val (.int ld76)] [(.int (3 : Int32)), (.ref a0)]))
      have H14 := Jvm.LawKit.callS Xj76 hx (y := (⟨"com/example/faces_into_crowds/facesintocrowds/BucketsFirstPinLaw", "fresh", "([II)Z"⟩ : MethodName)) hown (mvT hZ (hw _ (List.mem_of_getElem? (i := 61) rfl))) (mvT hZ (hw _ (List.mem_of_getElem? (i := 62) rfl))) (mvT hZ (hw _ (List.mem_of_getElem? (i := 50) rfl))) (mvT hZ (hw _ (List.mem_of_getElem? (i := 63) rfl))) (by decide) (backOf (W := 0) (rm_fr3 l Z av0 hw [] a0 cK ka kb kc kd h0 n0 Z0 A0) hZ (hw _ (List.mem_of_getElem? (i := 63) rfl)) (hw _ (List.mem_of_getElem? (i := 50) rfl)) (by decide) (by decide)) (g := (mkF m 83 #[.val (.ref a0), .val (.int p1), .val (.int p2), .val (.int r76), .val (.int ld76)] [(.int (3 : Int32)), (.ref a0)])) rfl (by rw [hml]; rfl) (argsL := [(.ref a0), (.int (3 : Int32))]) (rest := []) (lenOf own_pd5 rfl) rfl (by show 2 * 0 + _ ≤ _; exact Nat.le_of_eq rfl) (hb hby d12_83) (fun _ _ => ⟨rfl, ej76, (by decide : 0 + 0 ≤ _), (by decide : 0 + 0 ≤ _)⟩)
      refine own_cpsP H14 (c' := 0) (s' := 0) rfl rfl Nj76 (r := (some (.int (own_fr3 ka kb kc kd)))) (h1 := h0) (fun _ _ _ q => q) ?_
      clear H14
      intro T14 L14 X14 N14 e14
      show OGo p e below _ (T14.setTop (mkF m 86 #[.val (.ref a0), .val (.int p1), .val (.int p2), .val (.int r76), .val (.int ld76)] [(.int (own_fr3 ka kb kc kd))]))
      by_cases hc86_15 : (own_fr3 ka kb kc kd) = (0 : Int32)
      · refine OGo.by (fun _ k => XS.ifYes X14.here hx rfl (pc0 := 86) (pc' := 100) rfl (hb hby d12_86) rfl ((if0 _ _).trans (teq hc86_15).1) (by decide) (by decide) k) ?_
        show OGo p e below _ (T14.setTop (mkF m 100 #[.val (.ref a0), .val (.int p1), .val (.int p2), .val (.int r76), .val (.int ld76)] []))
        exact J100 _ _ r76 ld76 X14 e14 N14 (Eq.symm ((if_pos hc78_13).trans (if_pos hc86_15))) (Eq.symm ((if_pos hc78_13).trans (if_pos hc86_15)))
      · refine OGo.by (fun _ k => XS.ifNo X14.here hx rfl (hb hby d12_86) rfl ((if0 _ _).trans (feq hc86_15).1) k) ?_
        show OGo p e below _ (T14.setTop (mkF m 89 #[.val (.ref a0), .val (.int p1), .val (.int p2), .val (.int r76), .val (.int ld76)] []))
        refine OGo.by (fun _ k => XS.iloadN X14.here hx rfl (hb hby d12_89) rfl k) ?_
        show OGo p e below _ (T14.setTop (mkF m 90 #[.val (.ref a0), .val (.int p1), .val (.int p2), .val (.int r76), .val (.int ld76)] [(.int r76)]))
        refine OGo.by (fun _ k => XS.iloadN X14.here hx rfl (hb hby d12_90) rfl k) ?_
        show OGo p e below _ (T14.setTop (mkF m 91 #[.val (.ref a0), .val (.int p1), .val (.int p2), .val (.int r76), .val (.int ld76)] [(.int p2), (.int r76)]))
        by_cases hc91_16 : r76 = p2
        · refine OGo.by (fun _ k => XS.icmpNo X14.here hx rfl (hb hby d12_91) rfl (teq hc91_16).2 k) ?_
          show OGo p e below _ (T14.setTop (mkF m 94 #[.val (.ref a0), .val (.int p1), .val (.int p2), .val (.int r76), .val (.int ld76)] []))
          refine OGo.by (fun _ k => XS.iconst X14.here hx rfl (hb hby d12_94) k) ?_
          show OGo p e below _ (T14.setTop (mkF m 95 #[.val (.ref a0), .val (.int p1), .val (.int p2), .val (.int r76), .val (.int ld76)] [(.int (3 : Int32))]))
          refine OGo.by (fun _ k => XS.istore X14.here hx rfl (hb hby d12_95) rfl (l' := #[.val (.ref a0), .val (.int p1), .val (.int p2), .val (.int r76), .val (.int (3 : Int32))]) rfl k) ?_
          show OGo p e below _ (T14.setTop (mkF m 97 #[.val (.ref a0), .val (.int p1), .val (.int p2), .val (.int r76), .val (.int (3 : Int32))] []))
          refine OGo.by (fun _ k => XS.iinc X14.here hx rfl (hb hby d12_97) rfl (l' := #[.val (.ref a0), .val (.int p1), .val (.int p2), .val (.int (r76 + (1 : Int32))), .val (.int (3 : Int32))]) rfl k) ?_
          show OGo p e below _ (T14.setTop (mkF m 100 #[.val (.ref a0), .val (.int p1), .val (.int p2), .val (.int (r76 + (1 : Int32))), .val (.int (3 : Int32))] []))
          exact J100 _ _ (r76 + (1 : Int32)) (3 : Int32) X14 e14 N14 (Eq.symm ((if_pos hc78_13).trans (if_neg hc86_15))) (Eq.symm ((if_pos hc78_13).trans ((if_neg hc86_15).trans (if_pos hc91_16))))
        · refine OGo.by (fun _ k => XS.icmpYes X14.here hx rfl (pc0 := 91) (pc' := 97) rfl (hb hby d12_91) rfl (feq hc91_16).2 (by decide) (by decide) k) ?_
          show OGo p e below _ (T14.setTop (mkF m 97 #[.val (.ref a0), .val (.int p1), .val (.int p2), .val (.int r76), .val (.int ld76)] []))
          refine OGo.by (fun _ k => XS.iinc X14.here hx rfl (hb hby d12_97) rfl (l' := #[.val (.ref a0), .val (.int p1), .val (.int p2), .val (.int (r76 + (1 : Int32))), .val (.int ld76)]) rfl k) ?_
          show OGo p e below _ (T14.setTop (mkF m 100 #[.val (.ref a0), .val (.int p1), .val (.int p2), .val (.int (r76 + (1 : Int32))), .val (.int ld76)] []))
          exact J100 _ _ (r76 + (1 : Int32)) ld76 X14 e14 N14 (Eq.symm ((if_pos hc78_13).trans (if_neg hc86_15))) (Eq.symm ((if_pos hc78_13).trans ((if_neg hc86_15).trans (if_neg hc91_16))))
    · refine OGo.by (fun _ k => XS.icmpYes Xj76.here hx rfl (pc0 := 78) (pc' := 100) rfl (hb hby d12_78) rfl (flt hc78_13).2.2.2 (by decide) (by decide) k) ?_
      show OGo p e below _ (Tj76.setTop (mkF m 100 #[.val (.ref a0), .val (.int p1), .val (.int p2), .val (.int r76), .val (.int ld76)] []))
      exact J100 _ _ r76 ld76 Xj76 ej76 Nj76 (Eq.symm (if_neg hc78_13)) (Eq.symm (if_neg hc78_13))
  intro Tj100 lj100 r100 ld100 Xj100 ej100 Nj100 hqr100 hqld100
  refine OGo.by (fun _ k => XS.iload Xj100.here hx rfl (hb hby d12_100) rfl k) ?_
  show OGo p e below _ (Tj100.setTop (mkF m 102 #[.val (.ref a0), .val (.int p1), .val (.int p2), .val (.int r100), .val (.int ld100)] [(.int ld100)]))
  obtain ⟨fs, hr, hrun, hended, hW, hsame⟩ := Xj100.leave (v := some (.int ld100)) (fun h => by rw [Bd.returns] at h; cases h)
  refine OGo.ret (retI Xj100 hx Bd.returns (hb hby d12_102) hr) hrun hended ⟨_, _, rfl, ?_, ⟨_, rfl⟩, hW, hsame.mono (by decide) (by decide)⟩
  show Q_rm_lo Z a0 p1 p2 cK ka kb kc kd h0 n0 _ Tj100.heap _
  rw [ej100]
  exact ⟨congrArg (fun z => some (Value.int z)) (by simp only [hqr28, hqld28, hqr52, hqld52, hqr76, hqld76, hqr100, hqld100]; rfl), Nj100, rfl⟩
theorem d13_0 : decode method_5_code 0 = .ok (.iload_n 2, 1) := by decide +kernel
theorem d13_1 : decode method_5_code 1 = .ok (.istore_n 3, 1) := by decide +kernel
theorem d13_2 : decode method_5_code 2 = .ok (.iload_n 1, 1) := by decide +kernel
theorem d13_3 : decode method_5_code 3 = .ok (.iconst 1, 1) := by decide +kernel
theorem d13_4 : decode method_5_code 4 = .ok (.if_icmp .le 14, 3) := by decide +kernel
theorem d13_7 : decode method_5_code 7 = .ok (.aload_n 0, 1) := by decide +kernel
theorem d13_8 : decode method_5_code 8 = .ok (.iconst 1, 1) := by decide +kernel
theorem d13_9 : decode method_5_code 9 = .ok (.iaload, 1) := by decide +kernel
theorem d13_10 : decode method_5_code 10 = .ok (.aload_n 0, 1) := by decide +kernel
theorem d13_11 : decode method_5_code 11 = .ok (.iload_n 2, 1) := by decide +kernel
theorem d13_12 : decode method_5_code 12 = .ok (.iaload, 1) := by decide +kernel
theorem d13_13 : decode method_5_code 13 = .ok (.if_icmp .ne 5, 3) := by decide +kernel
theorem d13_16 : decode method_5_code 16 = .ok (.iconst 1, 1) := by decide +kernel
theorem d13_17 : decode method_5_code 17 = .ok (.istore_n 3, 1) := by decide +kernel
theorem d13_18 : decode method_5_code 18 = .ok (.iload_n 1, 1) := by decide +kernel
theorem d13_19 : decode method_5_code 19 = .ok (.iconst 2, 1) := by decide +kernel
theorem d13_20 : decode method_5_code 20 = .ok (.if_icmp .le 14, 3) := by decide +kernel
theorem d13_23 : decode method_5_code 23 = .ok (.aload_n 0, 1) := by decide +kernel
theorem d13_24 : decode method_5_code 24 = .ok (.iconst 2, 1) := by decide +kernel
theorem d13_25 : decode method_5_code 25 = .ok (.iaload, 1) := by decide +kernel
theorem d13_26 : decode method_5_code 26 = .ok (.aload_n 0, 1) := by decide +kernel
theorem d13_27 : decode method_5_code 27 = .ok (.iload_n 2, 1) := by decide +kernel
theorem d13_28 : decode method_5_code 28 = .ok (.iaload, 1) := by decide +kernel
theorem d13_29 : decode method_5_code 29 = .ok (.if_icmp .ne 5, 3) := by decide +kernel
theorem d13_32 : decode method_5_code 32 = .ok (.iconst 2, 1) := by decide +kernel
theorem d13_33 : decode method_5_code 33 = .ok (.istore_n 3, 1) := by decide +kernel
theorem d13_34 : decode method_5_code 34 = .ok (.iload_n 1, 1) := by decide +kernel
theorem d13_35 : decode method_5_code 35 = .ok (.iconst 3, 1) := by decide +kernel
theorem d13_36 : decode method_5_code 36 = .ok (.if_icmp .le 14, 3) := by decide +kernel
theorem d13_39 : decode method_5_code 39 = .ok (.aload_n 0, 1) := by decide +kernel
theorem d13_40 : decode method_5_code 40 = .ok (.iconst 3, 1) := by decide +kernel
theorem d13_41 : decode method_5_code 41 = .ok (.iaload, 1) := by decide +kernel
theorem d13_42 : decode method_5_code 42 = .ok (.aload_n 0, 1) := by decide +kernel
theorem d13_43 : decode method_5_code 43 = .ok (.iload_n 2, 1) := by decide +kernel
theorem d13_44 : decode method_5_code 44 = .ok (.iaload, 1) := by decide +kernel
theorem d13_45 : decode method_5_code 45 = .ok (.if_icmp .ne 5, 3) := by decide +kernel
theorem d13_48 : decode method_5_code 48 = .ok (.iconst 3, 1) := by decide +kernel
theorem d13_49 : decode method_5_code 49 = .ok (.istore_n 3, 1) := by decide +kernel
theorem d13_50 : decode method_5_code 50 = .ok (.iload_n 3, 1) := by decide +kernel
theorem d13_51 : decode method_5_code 51 = .ok (.ireturn, 1) := by decide +kernel
theorem own_pn13 : plainName "com/example/faces_into_crowds/facesintocrowds/BucketsFirstPinLaw" = true := by first | (simp [plainName, overriddenIn]; done) | decide +kernel
theorem ef_rm_lw (m : MethodId) (a0 : Addr) (p1 : Int32) (p2 : Int32) : entryFrame m #[(.ref a0), (.int p1), (.int p2)] 4 = mkF m 0 #[.val (.ref a0), .val (.int p1), .val (.int p2), .unset] [] := by first | (simp [entryFrame, mkF, argsToLocals, Value.category]; done) | rfl
def Q_rm_lw (Z : State) (a0 : Addr) (p1 : Int32) (p2 : Int32) (cK : ClassId) (R : List Int32) (h0 : Heap) (n0 : Nat) (v : Option Value) (h : Heap) (L : List Loc) : Prop := v = some (.int (own_lw p1 p2 R)) ∧ Fr n0 L ∧ h = h0
set_option maxRecDepth 65536 in
set_option maxHeartbeats 40000000 in
theorem rm_lw (l : Launch) (Z : State) (av0 : Array Value) (hw : ∀ d ∈ tables_1, d.before av0 Z = true) (ws : List Jvm.Cond) (a0 : Addr) (p1 : Int32) (p2 : Int32) (cK : ClassId) (R : List Int32) (h0 : Heap) (n0 : Nat) (Z0 : n0 ≤ h0.size) (A0 : Arv Z h0 a0 cK .int (4 : Int32) (R.map Value.int) (.int (0 : Int32))) (hL : ¬ p2 < 0 ∧ p2 < (4 : Int32)) :
    MetFree l (⟨"com/example/faces_into_crowds/facesintocrowds/BucketsFirstPinLaw", "lastWith", "([III)I"⟩ : MethodName) (head1 (Jvm.Cond.code (⟨"com/example/faces_into_crowds/facesintocrowds/BucketsFirstPinLaw", "lastWith", "([III)I"⟩ : MethodName) method_5_code 4 (some .int) :: ws) ({ frames := 0, cells := 0, slots := 0, locals := 0 } : Room)) (fun a U => a = #[(.ref a0), (.int p1), (.int p2)] ∧ Z.Warmed39 U.vm ∧ U.heap = h0) (fun _ _ _ _ _ => True) (fun _ U o U' => ∃ v L, o = .returned v ∧ Q_rm_lw Z a0 p1 p2 cK R h0 n0 v U'.heap L ∧ FrameEnd U o U' L ({ frames := 0, cells := 0, slots := 0, locals := 0 } : Room).cells ({ frames := 0, cells := 0, slots := 0, locals := 0 } : Room).slots) := by
  refine MetFree.of_bodySF (plainFor_of_name own_pn13) hisR ?_
  intro p e s m args below meth c s₁ Bd hml0 hP hK
  obtain ⟨rfl, hZ, hh⟩ := hP
  have hx := Bd.exec
  have hby := Bd.bytes
  have hml : c.maxLocals = 4 := hml0
  have hown : s.vm.findClass "com/example/faces_into_crowds/facesintocrowds/BucketsFirstPinLaw" = some m.cls := findClass_of_methodNamed Bd.named
  have hnm := (name_of_methodNamed Bd.named Bd.method).1
  have X0 : Stand p l e ({ frames := 0, cells := 0, slots := 0, locals := 0 } : Room) s m #[(.ref a0), (.int p1), (.int p2)] below meth c s₁ [] 0 0 := Stand.of_body Bd
  have e0 : s₁.heap = h0 := by rw [← hh, Bd.state]; rfl
  have N0 := Fr.nil n0
  refine OGo.by (P := fun U' o => ∃ v L, o = .returned v ∧ Q_rm_lw Z a0 p1 p2 cK R h0 n0 v U'.heap L ∧ FrameEnd s o U' L ({ frames := 0, cells := 0, slots := 0, locals := 0 } : Room).cells ({ frames := 0, cells := 0, slots := 0, locals := 0 } : Room).slots) (fun T_ k_ => castTop (ef_rm_lw m a0 p1 p2) k_) ?_
  show OGo p e below _ (s₁.setTop (mkF m 0 #[.val (.ref a0), .val (.int p1), .val (.int p2), .unset] []))
  refine OGo.by (fun _ k => XS.iloadN X0.here hx rfl (hb hby d13_0) rfl k) ?_
  show OGo p e below _ (s₁.setTop (mkF m 1 #[.val (.ref a0), .val (.int p1), .val (.int p2), .unset] [(.int p2)]))
  refine OGo.by (fun _ k => XS.istoreN X0.here hx rfl (hb hby d13_1) rfl (l' := #[.val (.ref a0), .val (.int p1), .val (.int p2), .val (.int p2)]) rfl k) ?_
  show OGo p e below _ (s₁.setTop (mkF m 2 #[.val (.ref a0), .val (.int p1), .val (.int p2), .val (.int p2)] []))
  suffices J18 : ∀ (Tj18 : State) (lj18 : List Loc) (an18 : Int32), Stand p l e ({ frames := 0, cells := 0, slots := 0, locals := 0 } : Room) s m #[(.ref a0), (.int p1), (.int p2)] below meth c Tj18 lj18 0 0 → Tj18.heap = h0 → Fr n0 lj18 → an18 = (own_ws p1 (1 : Int32) R 1 p2 p2) → OGo p e below (fun U' o => ∃ v L, o = .returned v ∧ Q_rm_lw Z a0 p1 p2 cK R h0 n0 v U'.heap L ∧ FrameEnd s o U' L (({ frames := 0, cells := 0, slots := 0, locals := 0 } : Room)).cells (({ frames := 0, cells := 0, slots := 0, locals := 0 } : Room)).slots) (Tj18.setTop (mkF m 18 #[.val (.ref a0), .val (.int p1), .val (.int p2), .val (.int an18)] [])) by
    refine OGo.by (fun _ k => XS.iloadN X0.here hx rfl (hb hby d13_2) rfl k) ?_
    show OGo p e below _ (s₁.setTop (mkF m 3 #[.val (.ref a0), .val (.int p1), .val (.int p2), .val (.int p2)] [(.int p1)]))
    refine OGo.by (fun _ k => XS.iconst X0.here hx rfl (hb hby d13_3) k) ?_
    show OGo p e below _ (s₁.setTop (mkF m 4 #[.val (.ref a0), .val (.int p1), .val (.int p2), .val (.int p2)] [(.int (1 : Int32)), (.int p1)]))
    by_cases hc4_1 : (1 : Int32) < p1
    · refine OGo.by (fun _ k => XS.icmpNo X0.here hx rfl (hb hby d13_4) rfl (tlt hc4_1).2.2.2 k) ?_
      show OGo p e below _ (s₁.setTop (mkF m 7 #[.val (.ref a0), .val (.int p1), .val (.int p2), .val (.int p2)] []))
      refine OGo.by (fun _ k => XS.aloadN X0.here hx rfl (hb hby d13_7) rfl rfl k) ?_
      show OGo p e below _ (s₁.setTop (mkF m 8 #[.val (.ref a0), .val (.int p1), .val (.int p2), .val (.int p2)] [(.ref a0)]))
      refine OGo.by (fun _ k => XS.iconst X0.here hx rfl (hb hby d13_8) k) ?_
      show OGo p e below _ (s₁.setTop (mkF m 9 #[.val (.ref a0), .val (.int p1), .val (.int p2), .val (.int p2)] [(.int (1 : Int32)), (.ref a0)]))
      obtain ⟨cl2, Ar2, q2, S2, M2, Hs2, G2⟩ := id A0
      have hin2 := inb_of (j := (1 : Int32)) S2 ⟨by decide, by decide⟩
      refine OGo.by (X0.iaload hx (j := (1 : Int32)) (v := (.int (R.getD 1 0))) (by rw [e0]; exact Ar2.1) (State.isArrayOf_alike hZ.alike Ar2.2.1) Ar2.2.2 hin2 (Has.at Hs2 hin2 (own_getD _ _)) (g := (mkF m 9 #[.val (.ref a0), .val (.int p1), .val (.int p2), .val (.int p2)] [(.int (1 : Int32)), (.ref a0)])) rfl rfl (hb hby d13_9)) ?_
      show OGo p e below _ (s₁.setTop (mkF m 10 #[.val (.ref a0), .val (.int p1), .val (.int p2), .val (.int p2)] [(.int (R.getD 1 0))]))
      refine OGo.by (fun _ k => XS.aloadN X0.here hx rfl (hb hby d13_10) rfl rfl k) ?_
      show OGo p e below _ (s₁.setTop (mkF m 11 #[.val (.ref a0), .val (.int p1), .val (.int p2), .val (.int p2)] [(.ref a0), (.int (R.getD 1 0))]))
      refine OGo.by (fun _ k => XS.iloadN X0.here hx rfl (hb hby d13_11) rfl k) ?_
      show OGo p e below _ (s₁.setTop (mkF m 12 #[.val (.ref a0), .val (.int p1), .val (.int p2), .val (.int p2)] [(.int p2), (.ref a0), (.int (R.getD 1 0))]))
      obtain ⟨cl3, Ar3, q3, S3, M3, Hs3, G3⟩ := id A0
      have hin3 := inb_of (j := p2) S3 hL
      refine OGo.by (X0.iaload hx (j := p2) (v := (.int (R.getD (p2).toNatClampNeg 0))) (by rw [e0]; exact Ar3.1) (State.isArrayOf_alike hZ.alike Ar3.2.1) Ar3.2.2 hin3 (Has.at Hs3 hin3 (own_getD _ _)) (g := (mkF m 12 #[.val (.ref a0), .val (.int p1), .val (.int p2), .val (.int p2)] [(.int p2), (.ref a0), (.int (R.getD 1 0))])) rfl rfl (hb hby d13_12)) ?_
      show OGo p e below _ (s₁.setTop (mkF m 13 #[.val (.ref a0), .val (.int p1), .val (.int p2), .val (.int p2)] [(.int (R.getD (p2).toNatClampNeg 0)), (.int (R.getD 1 0))]))
      by_cases hc13_4 : (R.getD 1 0) = (R.getD (p2).toNatClampNeg 0)
      · refine OGo.by (fun _ k => XS.icmpNo X0.here hx rfl (hb hby d13_13) rfl (teq hc13_4).2 k) ?_
        show OGo p e below _ (s₁.setTop (mkF m 16 #[.val (.ref a0), .val (.int p1), .val (.int p2), .val (.int p2)] []))
        refine OGo.by (fun _ k => XS.iconst X0.here hx rfl (hb hby d13_16) k) ?_
        show OGo p e below _ (s₁.setTop (mkF m 17 #[.val (.ref a0), .val (.int p1), .val (.int p2), .val (.int p2)] [(.int (1 : Int32))]))
        refine OGo.by (fun _ k => XS.istoreN X0.here hx rfl (hb hby d13_17) rfl (l' := #[.val (.ref a0), .val (.int p1), .val (.int p2), .val (.int (1 : Int32))]) rfl k) ?_
        show OGo p e below _ (s₁.setTop (mkF m 18 #[.val (.ref a0), .val (.int p1), .val (.int p2), .val (.int (1 : Int32))] []))
        exact J18 _ _ (1 : Int32) X0 e0 N0 (Eq.symm ((if_pos hc4_1).trans (if_pos hc13_4)))
      · refine OGo.by (fun _ k => XS.icmpYes X0.here hx rfl (pc0 := 13) (pc' := 18) rfl (hb hby d13_13) rfl (feq hc13_4).2 (by decide) (by decide) k) ?_
        show OGo p e below _ (s₁.setTop (mkF m 18 #[.val (.ref a0), .val (.int p1), .val (.int p2), .val (.int p2)] []))
        exact J18 _ _ p2 X0 e0 N0 (Eq.symm ((if_pos hc4_1).trans (if_neg hc13_4)))
    · refine OGo.by (fun _ k => XS.icmpYes X0.here hx rfl (pc0 := 4) (pc' := 18) rfl (hb hby d13_4) rfl (flt hc4_1).2.2.2 (by decide) (by decide) k) ?_
      show OGo p e below _ (s₁.setTop (mkF m 18 #[.val (.ref a0), .val (.int p1), .val (.int p2), .val (.int p2)] []))
      exact J18 _ _ p2 X0 e0 N0 (Eq.symm (if_neg hc4_1))
  intro Tj18 lj18 an18 Xj18 ej18 Nj18 hqan18
  suffices J34 : ∀ (Tj34 : State) (lj34 : List Loc) (an34 : Int32), Stand p l e ({ frames := 0, cells := 0, slots := 0, locals := 0 } : Room) s m #[(.ref a0), (.int p1), (.int p2)] below meth c Tj34 lj34 0 0 → Tj34.heap = h0 → Fr n0 lj34 → an34 = (own_ws p1 (2 : Int32) R 2 p2 an18) → OGo p e below (fun U' o => ∃ v L, o = .returned v ∧ Q_rm_lw Z a0 p1 p2 cK R h0 n0 v U'.heap L ∧ FrameEnd s o U' L (({ frames := 0, cells := 0, slots := 0, locals := 0 } : Room)).cells (({ frames := 0, cells := 0, slots := 0, locals := 0 } : Room)).slots) (Tj34.setTop (mkF m 34 #[.val (.ref a0), .val (.int p1), .val (.int p2), .val (.int an34)] [])) by
    refine OGo.by (fun _ k => XS.iloadN Xj18.here hx rfl (hb hby d13_18) rfl k) ?_
    show OGo p e below _ (Tj18.setTop (mkF m 19 #[.val (.ref a0), .val (.int p1), .val (.int p2), .val (.int an18)] [(.int p1)]))
    refine OGo.by (fun _ k => XS.iconst Xj18.here hx rfl (hb hby d13_19) k) ?_
    show OGo p e below _ (Tj18.setTop (mkF m 20 #[.val (.ref a0), .val (.int p1), .val (.int p2), .val (.int an18)] [(.int (2 : Int32)), (.int p1)]))
    by_cases hc20_5 : (2 : Int32) < p1
    · refine OGo.by (fun _ k => XS.icmpNo Xj18.here hx rfl (hb hby d13_20) rfl (tlt hc20_5).2.2.2 k) ?_
      show OGo p e below _ (Tj18.setTop (mkF m 23 #[.val (.ref a0), .val (.int p1), .val (.int p2), .val (.int an18)] []))
      refine OGo.by (fun _ k => XS.aloadN Xj18.here hx rfl (hb hby d13_23) rfl rfl k) ?_
      show OGo p e below _ (Tj18.setTop (mkF m 24 #[.val (.ref a0), .val (.int p1), .val (.int p2), .val (.int an18)] [(.ref a0)]))
      refine OGo.by (fun _ k => XS.iconst Xj18.here hx rfl (hb hby d13_24) k) ?_
      show OGo p e below _ (Tj18.setTop (mkF m 25 #[.val (.ref a0), .val (.int p1), .val (.int p2), .val (.int an18)] [(.int (2 : Int32)), (.ref a0)]))
      obtain ⟨cl6, Ar6, q6, S6, M6, Hs6, G6⟩ := id A0
      have hin6 := inb_of (j := (2 : Int32)) S6 ⟨by decide, by decide⟩
      refine OGo.by (Xj18.iaload hx (j := (2 : Int32)) (v := (.int (R.getD 2 0))) (by rw [ej18]; exact Ar6.1) (State.isArrayOf_alike hZ.alike Ar6.2.1) Ar6.2.2 hin6 (Has.at Hs6 hin6 (own_getD _ _)) (g := (mkF m 25 #[.val (.ref a0), .val (.int p1), .val (.int p2), .val (.int an18)] [(.int (2 : Int32)), (.ref a0)])) rfl rfl (hb hby d13_25)) ?_
      show OGo p e below _ (Tj18.setTop (mkF m 26 #[.val (.ref a0), .val (.int p1), .val (.int p2), .val (.int an18)] [(.int (R.getD 2 0))]))
      refine OGo.by (fun _ k => XS.aloadN Xj18.here hx rfl (hb hby d13_26) rfl rfl k) ?_
      show OGo p e below _ (Tj18.setTop (mkF m 27 #[.val (.ref a0), .val (.int p1), .val (.int p2), .val (.int an18)] [(.ref a0), (.int (R.getD 2 0))]))
      refine OGo.by (fun _ k => XS.iloadN Xj18.here hx rfl (hb hby d13_27) rfl k) ?_
      show OGo p e below _ (Tj18.setTop (mkF m 28 #[.val (.ref a0), .val (.int p1), .val (.int p2), .val (.int an18)] [(.int p2), (.ref a0), (.int (R.getD 2 0))]))
      obtain ⟨cl7, Ar7, q7, S7, M7, Hs7, G7⟩ := id A0
      have hin7 := inb_of (j := p2) S7 hL
      refine OGo.by (Xj18.iaload hx (j := p2) (v := (.int (R.getD (p2).toNatClampNeg 0))) (by rw [ej18]; exact Ar7.1) (State.isArrayOf_alike hZ.alike Ar7.2.1) Ar7.2.2 hin7 (Has.at Hs7 hin7 (own_getD _ _)) (g := (mkF m 28 #[.val (.ref a0), .val (.int p1), .val (.int p2), .val (.int an18)] [(.int p2), (.ref a0), (.int (R.getD 2 0))])) rfl rfl (hb hby d13_28)) ?_
      show OGo p e below _ (Tj18.setTop (mkF m 29 #[.val (.ref a0), .val (.int p1), .val (.int p2), .val (.int an18)] [(.int (R.getD (p2).toNatClampNeg 0)), (.int (R.getD 2 0))]))
      by_cases hc29_8 : (R.getD 2 0) = (R.getD (p2).toNatClampNeg 0)
      · refine OGo.by (fun _ k => XS.icmpNo Xj18.here hx rfl (hb hby d13_29) rfl (teq hc29_8).2 k) ?_
        show OGo p e below _ (Tj18.setTop (mkF m 32 #[.val (.ref a0), .val (.int p1), .val (.int p2), .val (.int an18)] []))
        refine OGo.by (fun _ k => XS.iconst Xj18.here hx rfl (hb hby d13_32) k) ?_
        show OGo p e below _ (Tj18.setTop (mkF m 33 #[.val (.ref a0), .val (.int p1), .val (.int p2), .val (.int an18)] [(.int (2 : Int32))]))
        refine OGo.by (fun _ k => XS.istoreN Xj18.here hx rfl (hb hby d13_33) rfl (l' := #[.val (.ref a0), .val (.int p1), .val (.int p2), .val (.int (2 : Int32))]) rfl k) ?_
        show OGo p e below _ (Tj18.setTop (mkF m 34 #[.val (.ref a0), .val (.int p1), .val (.int p2), .val (.int (2 : Int32))] []))
        exact J34 _ _ (2 : Int32) Xj18 ej18 Nj18 (Eq.symm ((if_pos hc20_5).trans (if_pos hc29_8)))
      · refine OGo.by (fun _ k => XS.icmpYes Xj18.here hx rfl (pc0 := 29) (pc' := 34) rfl (hb hby d13_29) rfl (feq hc29_8).2 (by decide) (by decide) k) ?_
        show OGo p e below _ (Tj18.setTop (mkF m 34 #[.val (.ref a0), .val (.int p1), .val (.int p2), .val (.int an18)] []))
        exact J34 _ _ an18 Xj18 ej18 Nj18 (Eq.symm ((if_pos hc20_5).trans (if_neg hc29_8)))
    · refine OGo.by (fun _ k => XS.icmpYes Xj18.here hx rfl (pc0 := 20) (pc' := 34) rfl (hb hby d13_20) rfl (flt hc20_5).2.2.2 (by decide) (by decide) k) ?_
      show OGo p e below _ (Tj18.setTop (mkF m 34 #[.val (.ref a0), .val (.int p1), .val (.int p2), .val (.int an18)] []))
      exact J34 _ _ an18 Xj18 ej18 Nj18 (Eq.symm (if_neg hc20_5))
  intro Tj34 lj34 an34 Xj34 ej34 Nj34 hqan34
  suffices J50 : ∀ (Tj50 : State) (lj50 : List Loc) (an50 : Int32), Stand p l e ({ frames := 0, cells := 0, slots := 0, locals := 0 } : Room) s m #[(.ref a0), (.int p1), (.int p2)] below meth c Tj50 lj50 0 0 → Tj50.heap = h0 → Fr n0 lj50 → an50 = (own_ws p1 (3 : Int32) R 3 p2 an34) → OGo p e below (fun U' o => ∃ v L, o = .returned v ∧ Q_rm_lw Z a0 p1 p2 cK R h0 n0 v U'.heap L ∧ FrameEnd s o U' L (({ frames := 0, cells := 0, slots := 0, locals := 0 } : Room)).cells (({ frames := 0, cells := 0, slots := 0, locals := 0 } : Room)).slots) (Tj50.setTop (mkF m 50 #[.val (.ref a0), .val (.int p1), .val (.int p2), .val (.int an50)] [])) by
    refine OGo.by (fun _ k => XS.iloadN Xj34.here hx rfl (hb hby d13_34) rfl k) ?_
    show OGo p e below _ (Tj34.setTop (mkF m 35 #[.val (.ref a0), .val (.int p1), .val (.int p2), .val (.int an34)] [(.int p1)]))
    refine OGo.by (fun _ k => XS.iconst Xj34.here hx rfl (hb hby d13_35) k) ?_
    show OGo p e below _ (Tj34.setTop (mkF m 36 #[.val (.ref a0), .val (.int p1), .val (.int p2), .val (.int an34)] [(.int (3 : Int32)), (.int p1)]))
    by_cases hc36_9 : (3 : Int32) < p1
    · refine OGo.by (fun _ k => XS.icmpNo Xj34.here hx rfl (hb hby d13_36) rfl (tlt hc36_9).2.2.2 k) ?_
      show OGo p e below _ (Tj34.setTop (mkF m 39 #[.val (.ref a0), .val (.int p1), .val (.int p2), .val (.int an34)] []))
      refine OGo.by (fun _ k => XS.aloadN Xj34.here hx rfl (hb hby d13_39) rfl rfl k) ?_
      show OGo p e below _ (Tj34.setTop (mkF m 40 #[.val (.ref a0), .val (.int p1), .val (.int p2), .val (.int an34)] [(.ref a0)]))
      refine OGo.by (fun _ k => XS.iconst Xj34.here hx rfl (hb hby d13_40) k) ?_
      show OGo p e below _ (Tj34.setTop (mkF m 41 #[.val (.ref a0), .val (.int p1), .val (.int p2), .val (.int an34)] [(.int (3 : Int32)), (.ref a0)]))
      obtain ⟨cl10, Ar10, q10, S10, M10, Hs10, G10⟩ := id A0
      have hin10 := inb_of (j := (3 : Int32)) S10 ⟨by decide, by decide⟩
      refine OGo.by (Xj34.iaload hx (j := (3 : Int32)) (v := (.int (R.getD 3 0))) (by rw [ej34]; exact Ar10.1) (State.isArrayOf_alike hZ.alike Ar10.2.1) Ar10.2.2 hin10 (Has.at Hs10 hin10 (own_getD _ _)) (g := (mkF m 41 #[.val (.ref a0), .val (.int p1), .val (.int p2), .val (.int an34)] [(.int (3 : Int32)), (.ref a0)])) rfl rfl (hb hby d13_41)) ?_
      show OGo p e below _ (Tj34.setTop (mkF m 42 #[.val (.ref a0), .val (.int p1), .val (.int p2), .val (.int an34)] [(.int (R.getD 3 0))]))
      refine OGo.by (fun _ k => XS.aloadN Xj34.here hx rfl (hb hby d13_42) rfl rfl k) ?_
      show OGo p e below _ (Tj34.setTop (mkF m 43 #[.val (.ref a0), .val (.int p1), .val (.int p2), .val (.int an34)] [(.ref a0), (.int (R.getD 3 0))]))
      refine OGo.by (fun _ k => XS.iloadN Xj34.here hx rfl (hb hby d13_43) rfl k) ?_
      show OGo p e below _ (Tj34.setTop (mkF m 44 #[.val (.ref a0), .val (.int p1), .val (.int p2), .val (.int an34)] [(.int p2), (.ref a0), (.int (R.getD 3 0))]))
      obtain ⟨cl11, Ar11, q11, S11, M11, Hs11, G11⟩ := id A0
      have hin11 := inb_of (j := p2) S11 hL
      refine OGo.by (Xj34.iaload hx (j := p2) (v := (.int (R.getD (p2).toNatClampNeg 0))) (by rw [ej34]; exact Ar11.1) (State.isArrayOf_alike hZ.alike Ar11.2.1) Ar11.2.2 hin11 (Has.at Hs11 hin11 (own_getD _ _)) (g := (mkF m 44 #[.val (.ref a0), .val (.int p1), .val (.int p2), .val (.int an34)] [(.int p2), (.ref a0), (.int (R.getD 3 0))])) rfl rfl (hb hby d13_44)) ?_
      show OGo p e below _ (Tj34.setTop (mkF m 45 #[.val (.ref a0), .val (.int p1), .val (.int p2), .val (.int an34)] [(.int (R.getD (p2).toNatClampNeg 0)), (.int (R.getD 3 0))]))
      by_cases hc45_12 : (R.getD 3 0) = (R.getD (p2).toNatClampNeg 0)
      · refine OGo.by (fun _ k => XS.icmpNo Xj34.here hx rfl (hb hby d13_45) rfl (teq hc45_12).2 k) ?_
        show OGo p e below _ (Tj34.setTop (mkF m 48 #[.val (.ref a0), .val (.int p1), .val (.int p2), .val (.int an34)] []))
        refine OGo.by (fun _ k => XS.iconst Xj34.here hx rfl (hb hby d13_48) k) ?_
        show OGo p e below _ (Tj34.setTop (mkF m 49 #[.val (.ref a0), .val (.int p1), .val (.int p2), .val (.int an34)] [(.int (3 : Int32))]))
        refine OGo.by (fun _ k => XS.istoreN Xj34.here hx rfl (hb hby d13_49) rfl (l' := #[.val (.ref a0), .val (.int p1), .val (.int p2), .val (.int (3 : Int32))]) rfl k) ?_
        show OGo p e below _ (Tj34.setTop (mkF m 50 #[.val (.ref a0), .val (.int p1), .val (.int p2), .val (.int (3 : Int32))] []))
        exact J50 _ _ (3 : Int32) Xj34 ej34 Nj34 (Eq.symm ((if_pos hc36_9).trans (if_pos hc45_12)))
      · refine OGo.by (fun _ k => XS.icmpYes Xj34.here hx rfl (pc0 := 45) (pc' := 50) rfl (hb hby d13_45) rfl (feq hc45_12).2 (by decide) (by decide) k) ?_
        show OGo p e below _ (Tj34.setTop (mkF m 50 #[.val (.ref a0), .val (.int p1), .val (.int p2), .val (.int an34)] []))
        exact J50 _ _ an34 Xj34 ej34 Nj34 (Eq.symm ((if_pos hc36_9).trans (if_neg hc45_12)))
    · refine OGo.by (fun _ k => XS.icmpYes Xj34.here hx rfl (pc0 := 36) (pc' := 50) rfl (hb hby d13_36) rfl (flt hc36_9).2.2.2 (by decide) (by decide) k) ?_
      show OGo p e below _ (Tj34.setTop (mkF m 50 #[.val (.ref a0), .val (.int p1), .val (.int p2), .val (.int an34)] []))
      exact J50 _ _ an34 Xj34 ej34 Nj34 (Eq.symm (if_neg hc36_9))
  intro Tj50 lj50 an50 Xj50 ej50 Nj50 hqan50
  refine OGo.by (fun _ k => XS.iloadN Xj50.here hx rfl (hb hby d13_50) rfl k) ?_
  show OGo p e below _ (Tj50.setTop (mkF m 51 #[.val (.ref a0), .val (.int p1), .val (.int p2), .val (.int an50)] [(.int an50)]))
  obtain ⟨fs, hr, hrun, hended, hW, hsame⟩ := Xj50.leave (v := some (.int an50)) (fun h => by rw [Bd.returns] at h; cases h)
  refine OGo.ret (retI Xj50 hx Bd.returns (hb hby d13_51) hr) hrun hended ⟨_, _, rfl, ?_, ⟨_, rfl⟩, hW, hsame.mono (by decide) (by decide)⟩
  show Q_rm_lw Z a0 p1 p2 cK R h0 n0 _ Tj50.heap _
  rw [ej50]
  exact ⟨congrArg (fun z => some (Value.int z)) (by simp only [hqan18, hqan34, hqan50]; rfl), Nj50, rfl⟩
theorem d9_0 : decode prog_1_method_3_code 0 = .ok (.aload_n 0, 1) := by decide +kernel
theorem d9_1 : decode prog_1_method_3_code 1 = .ok (.getfield 43, 3) := by decide +kernel
theorem d9_4 : decode prog_1_method_3_code 4 = .ok (.ireturn, 1) := by decide +kernel
theorem own_pn9 : plainName "com/example/faces_into_crowds/facesintocrowds/Buckets" = true := by first | (simp [plainName, overriddenIn]; done) | decide +kernel
theorem ef_rm_ct (m : MethodId) (a0 : Addr) : entryFrame m #[(.ref a0)] 1 = mkF m 0 #[.val (.ref a0)] [] := by first | (simp [entryFrame, mkF, argsToLocals, Value.category]; done) | rfl
def Q_rm_ct (Z : State) (a0 : Addr) (vB : Int32) (h0 : Heap) (n0 : Nat) (v : Option Value) (h : Heap) (L : List Loc) : Prop := v = some (.int vB) ∧ Fr n0 L ∧ h = h0
set_option maxRecDepth 65536 in
set_option maxHeartbeats 40000000 in
theorem rm_ct (l : Launch) (Z : State) (av0 : Array Value) (hw : ∀ d ∈ tables_1, d.before av0 Z = true) (ws : List Jvm.Cond) (a0 : Addr) (vB : Int32) (h0 : Heap) (n0 : Nat) (Z0 : n0 ≤ h0.size) (F0 : Fld Z h0 a0 "com/example/faces_into_crowds/facesintocrowds/Buckets" "mBuckets" "I" (.int vB)) :
    MetFree l (⟨"com/example/faces_into_crowds/facesintocrowds/Buckets", "count", "()I"⟩ : MethodName) (head1 (Jvm.Cond.code (⟨"com/example/faces_into_crowds/facesintocrowds/Buckets", "count", "()I"⟩ : MethodName) prog_1_method_3_code 1 (some .int) :: ws) ({ frames := 0, cells := 0, slots := 0, locals := 0 } : Room)) (fun a U => a = #[(.ref a0)] ∧ Z.Warmed39 U.vm ∧ U.heap = h0) (fun _ _ _ _ _ => True) (fun _ U o U' => ∃ v L, o = .returned v ∧ Q_rm_ct Z a0 vB h0 n0 v U'.heap L ∧ FrameEnd U o U' L ({ frames := 0, cells := 0, slots := 0, locals := 0 } : Room).cells ({ frames := 0, cells := 0, slots := 0, locals := 0 } : Room).slots) := by
  refine MetFree.of_bodySF (plainFor_of_name own_pn9) hisR ?_
  intro p e s m args below meth c s₁ Bd hml0 hP hK
  obtain ⟨rfl, hZ, hh⟩ := hP
  have hx := Bd.exec
  have hby := Bd.bytes
  have hml : c.maxLocals = 1 := hml0
  have hown : s.vm.findClass "com/example/faces_into_crowds/facesintocrowds/Buckets" = some m.cls := findClass_of_methodNamed Bd.named
  have hnm := (name_of_methodNamed Bd.named Bd.method).1
  have X0 : Stand p l e ({ frames := 0, cells := 0, slots := 0, locals := 0 } : Room) s m #[(.ref a0)] below meth c s₁ [] 0 0 := Stand.of_body Bd
  have e0 : s₁.heap = h0 := by rw [← hh, Bd.state]; rfl
  have N0 := Fr.nil n0
  refine OGo.by (P := fun U' o => ∃ v L, o = .returned v ∧ Q_rm_ct Z a0 vB h0 n0 v U'.heap L ∧ FrameEnd s o U' L ({ frames := 0, cells := 0, slots := 0, locals := 0 } : Room).cells ({ frames := 0, cells := 0, slots := 0, locals := 0 } : Room).slots) (fun T_ k_ => castTop (ef_rm_ct m a0) k_) ?_
  show OGo p e below _ (s₁.setTop (mkF m 0 #[.val (.ref a0)] []))
  refine OGo.by (fun _ k => XS.aloadN X0.here hx rfl (hb hby d9_0) rfl rfl k) ?_
  show OGo p e below _ (s₁.setTop (mkF m 1 #[.val (.ref a0)] [(.ref a0)]))
  obtain ⟨T1, X1, e1, st1⟩ := getF X0 hx hZ hown (host := "") (Or.inl (hw _ (List.mem_of_getElem? (i := 44) rfl))) Via.refl e0 F0 (g := (mkF m 1 #[.val (.ref a0)] [(.ref a0)])) rfl rfl (hb hby d9_1)
  refine OGo.by st1 ?_
  show OGo p e below _ (T1.setTop (mkF m 4 #[.val (.ref a0)] [(.int vB)]))
  obtain ⟨fs, hr, hrun, hended, hW, hsame⟩ := X1.leave (v := some (.int vB)) (fun h => by rw [Bd.returns] at h; cases h)
  refine OGo.ret (retI X1 hx Bd.returns (hb hby d9_4) hr) hrun hended ⟨_, _, rfl, ?_, ⟨_, rfl⟩, hW, hsame.mono (by decide) (by decide)⟩
  show Q_rm_ct Z a0 vB h0 n0 _ T1.heap _
  rw [e1]
  exact ⟨rfl, N0, rfl⟩
theorem d14_0 : decode prog_1_method_4_code 0 = .ok (.aload_n 0, 1) := by decide +kernel
theorem d14_1 : decode prog_1_method_4_code 1 = .ok (.getfield 21, 3) := by decide +kernel
theorem d14_4 : decode prog_1_method_4_code 4 = .ok (.aload_n 0, 1) := by decide +kernel
theorem d14_5 : decode prog_1_method_4_code 5 = .ok (.getfield 36, 3) := by decide +kernel
theorem d14_8 : decode prog_1_method_4_code 8 = .ok (.iload_n 1, 1) := by decide +kernel
theorem d14_9 : decode prog_1_method_4_code 9 = .ok (.iaload, 1) := by decide +kernel
theorem d14_10 : decode prog_1_method_4_code 10 = .ok (.iaload, 1) := by decide +kernel
theorem d14_11 : decode prog_1_method_4_code 11 = .ok (.ireturn, 1) := by decide +kernel
theorem own_pn14 : plainName "com/example/faces_into_crowds/facesintocrowds/Buckets" = true := by first | (simp [plainName, overriddenIn]; done) | decide +kernel
theorem ef_rm_fs (m : MethodId) (a0 : Addr) (qz : Nat) (zf : Addr) (zs : Addr) (kf : ClassId) (ks : ClassId) (ml : Int32) (cpI : Int32) (lF : List Int32) (lS : List Int32) : entryFrame m #[(.ref a0), (.int (Int32.ofNat qz))] 2 = mkF m 0 #[.val (.ref a0), .val (.int (Int32.ofNat qz))] [] := by first | (simp [entryFrame, mkF, argsToLocals, Value.category]; done) | rfl
def Q_rm_fs (Z : State) (a0 : Addr) (qz : Nat) (zf : Addr) (zs : Addr) (kf : ClassId) (ks : ClassId) (ml : Int32) (cpI : Int32) (lF : List Int32) (lS : List Int32) (h0 : Heap) (n0 : Nat) (v : Option Value) (h : Heap) (L : List Loc) : Prop := v = some (.int (lF.getD (lS.getD qz 0).toNatClampNeg 0)) ∧ Fr n0 L ∧ h = h0
set_option maxRecDepth 65536 in
set_option maxHeartbeats 40000000 in
theorem rm_fs (l : Launch) (Z : State) (av0 : Array Value) (hw : ∀ d ∈ tables_1, d.before av0 Z = true) (ws : List Jvm.Cond) (a0 : Addr) (qz : Nat) (zf : Addr) (zs : Addr) (kf : ClassId) (ks : ClassId) (ml : Int32) (cpI : Int32) (lF : List Int32) (lS : List Int32) (h0 : Heap) (n0 : Nat) (Z0 : n0 ≤ h0.size) (F0 : Fld Z h0 a0 "com/example/faces_into_crowds/facesintocrowds/Buckets" "mFirst" "[I" (.ref zf)) (F1_ : Fld Z h0 a0 "com/example/faces_into_crowds/facesintocrowds/Buckets" "mSlots" "[I" (.ref zs)) (AF : Arv Z h0 zf kf .int ml (lF.map Value.int) (.int (0 : Int32))) (AS : Arv Z h0 zs ks .int cpI (lS.map Value.int) (.int (0 : Int32))) (hq : ¬ Int32.ofNat qz < 0 ∧ Int32.ofNat qz < cpI) (hr : ¬ lS.getD qz 0 < 0 ∧ lS.getD qz 0 < ml) (hq4 : qz < 4) :
    MetFree l (⟨"com/example/faces_into_crowds/facesintocrowds/Buckets", "first", "(I)I"⟩ : MethodName) (head1 (Jvm.Cond.code (⟨"com/example/faces_into_crowds/facesintocrowds/Buckets", "first", "(I)I"⟩ : MethodName) prog_1_method_4_code 2 (some .int) :: ws) ({ frames := 0, cells := 0, slots := 0, locals := 0 } : Room)) (fun a U => a = #[(.ref a0), (.int (Int32.ofNat qz))] ∧ Z.Warmed39 U.vm ∧ U.heap = h0) (fun _ _ _ _ _ => True) (fun _ U o U' => ∃ v L, o = .returned v ∧ Q_rm_fs Z a0 qz zf zs kf ks ml cpI lF lS h0 n0 v U'.heap L ∧ FrameEnd U o U' L ({ frames := 0, cells := 0, slots := 0, locals := 0 } : Room).cells ({ frames := 0, cells := 0, slots := 0, locals := 0 } : Room).slots) := by
  refine MetFree.of_bodySF (plainFor_of_name own_pn14) hisR ?_
  intro p e s m args below meth c s₁ Bd hml0 hP hK
  obtain ⟨rfl, hZ, hh⟩ := hP
  have hx := Bd.exec
  have hby := Bd.bytes
  have hml : c.maxLocals = 2 := hml0
  have hown : s.vm.findClass "com/example/faces_into_crowds/facesintocrowds/Buckets" = some m.cls := findClass_of_methodNamed Bd.named
  have hnm := (name_of_methodNamed Bd.named Bd.method).1
  have X0 : Stand p l e ({ frames := 0, cells := 0, slots := 0, locals := 0 } : Room) s m #[(.ref a0), (.int (Int32.ofNat qz))] below meth c s₁ [] 0 0 := Stand.of_body Bd
  have e0 : s₁.heap = h0 := by rw [← hh, Bd.state]; rfl
  have N0 := Fr.nil n0
  refine OGo.by (P := fun U' o => ∃ v L, o = .returned v ∧ Q_rm_fs Z a0 qz zf zs kf ks ml cpI lF lS h0 n0 v U'.heap L ∧ FrameEnd s o U' L ({ frames := 0, cells := 0, slots := 0, locals := 0 } : Room).cells ({ frames := 0, cells := 0, slots := 0, locals := 0 } : Room).slots) (fun T_ k_ => castTop (ef_rm_fs m a0 qz zf zs kf ks ml cpI lF lS) k_) ?_
  show OGo p e below _ (s₁.setTop (mkF m 0 #[.val (.ref a0), .val (.int (Int32.ofNat qz))] []))
  refine OGo.by (fun _ k => XS.aloadN X0.here hx rfl (hb hby d14_0) rfl rfl k) ?_
  show OGo p e below _ (s₁.setTop (mkF m 1 #[.val (.ref a0), .val (.int (Int32.ofNat qz))] [(.ref a0)]))
  obtain ⟨T1, X1, e1, st1⟩ := getF X0 hx hZ hown (host := "") (Or.inl (hw _ (List.mem_of_getElem? (i := 27) rfl))) Via.refl e0 F0 (g := (mkF m 1 #[.val (.ref a0), .val (.int (Int32.ofNat qz))] [(.ref a0)])) rfl rfl (hb hby d14_1)
  refine OGo.by st1 ?_
  show OGo p e below _ (T1.setTop (mkF m 4 #[.val (.ref a0), .val (.int (Int32.ofNat qz))] [(.ref zf)]))
  refine OGo.by (fun _ k => XS.aloadN X1.here hx rfl (hb hby d14_4) rfl rfl k) ?_
  show OGo p e below _ (T1.setTop (mkF m 5 #[.val (.ref a0), .val (.int (Int32.ofNat qz))] [(.ref a0), (.ref zf)]))
  obtain ⟨T2, X2, e2, st2⟩ := getF X1 hx hZ hown (host := "") (Or.inl (hw _ (List.mem_of_getElem? (i := 35) rfl))) Via.refl e1 F1_ (g := (mkF m 5 #[.val (.ref a0), .val (.int (Int32.ofNat qz))] [(.ref a0), (.ref zf)])) rfl rfl (hb hby d14_5)
  refine OGo.by st2 ?_
  show OGo p e below _ (T2.setTop (mkF m 8 #[.val (.ref a0), .val (.int (Int32.ofNat qz))] [(.ref zs), (.ref zf)]))
  refine OGo.by (fun _ k => XS.iloadN X2.here hx rfl (hb hby d14_8) rfl k) ?_
  show OGo p e below _ (T2.setTop (mkF m 9 #[.val (.ref a0), .val (.int (Int32.ofNat qz))] [(.int (Int32.ofNat qz)), (.ref zs), (.ref zf)]))
  obtain ⟨cl3, Ar3, q3, S3, M3, Hs3, G3⟩ := id AS
  have hin3 := inb_of (j := (Int32.ofNat qz)) S3 hq
  refine OGo.by (X2.iaload hx (j := (Int32.ofNat qz)) (v := (.int (lS.getD ((Int32.ofNat qz)).toNatClampNeg 0))) (by rw [e2]; exact Ar3.1) (State.isArrayOf_alike hZ.alike Ar3.2.1) Ar3.2.2 hin3 (Has.at Hs3 hin3 (own_getD _ _)) (g := (mkF m 9 #[.val (.ref a0), .val (.int (Int32.ofNat qz))] [(.int (Int32.ofNat qz)), (.ref zs), (.ref zf)])) rfl rfl (hb hby d14_9)) ?_
  rw [own_tn (Nat.lt_of_lt_of_le hq4 (by decide))]
  show OGo p e below _ (T2.setTop (mkF m 10 #[.val (.ref a0), .val (.int (Int32.ofNat qz))] [(.int (lS.getD qz 0)), (.ref zf)]))
  obtain ⟨cl4, Ar4, q4, S4, M4, Hs4, G4⟩ := id AF
  have hin4 := inb_of (j := (lS.getD qz 0)) S4 hr
  refine OGo.by (X2.iaload hx (j := (lS.getD qz 0)) (v := (.int (lF.getD ((lS.getD qz 0)).toNatClampNeg 0))) (by rw [e2]; exact Ar4.1) (State.isArrayOf_alike hZ.alike Ar4.2.1) Ar4.2.2 hin4 (Has.at Hs4 hin4 (own_getD _ _)) (g := (mkF m 10 #[.val (.ref a0), .val (.int (Int32.ofNat qz))] [(.int (lS.getD qz 0)), (.ref zf)])) rfl rfl (hb hby d14_10)) ?_
  show OGo p e below _ (T2.setTop (mkF m 11 #[.val (.ref a0), .val (.int (Int32.ofNat qz))] [(.int (lF.getD ((lS.getD qz 0)).toNatClampNeg 0))]))
  obtain ⟨fs, hr, hrun, hended, hW, hsame⟩ := X2.leave (v := some (.int (lF.getD ((lS.getD qz 0)).toNatClampNeg 0))) (fun h => by rw [Bd.returns] at h; cases h)
  refine OGo.ret (retI X2 hx Bd.returns (hb hby d14_11) hr) hrun hended ⟨_, _, rfl, ?_, ⟨_, rfl⟩, hW, hsame.mono (by decide) (by decide)⟩
  show Q_rm_fs Z a0 qz zf zs kf ks ml cpI lF lS h0 n0 _ T2.heap _
  rw [e2]
  exact ⟨rfl, N0, rfl⟩
theorem own_frE {K : Nat → Int32} : own_fr0 (K 0) (K 1) (K 2) (K 3) = (if own_fresh K 0 = true then 1 else 0) ∧ own_fr1 (K 0) (K 1) (K 2) (K 3) = (if own_fresh K 1 = true then 1 else 0) ∧ own_fr2 (K 0) (K 1) (K 2) (K 3) = (if own_fresh K 2 = true then 1 else 0) ∧ own_fr3 (K 0) (K 1) (K 2) (K 3) = (if own_fresh K 3 = true then 1 else 0) := by
  have r1 : List.range 1 = [0] := rfl
  have r2 : List.range 2 = [0, 1] := rfl
  have r3 : List.range 3 = [0, 1, 2] := rfl
  refine ⟨rfl, ?_, ?_, ?_⟩
  · unfold own_fr1 own_fresh; rw [r1]; simp only [List.all_cons, List.all_nil]
    by_cases h0 : K 0 = K 1 <;> simp [h0]
  · unfold own_fr2 own_fresh; rw [r2]; simp only [List.all_cons, List.all_nil]
    by_cases h0 : K 0 = K 2 <;> by_cases h1 : K 1 = K 2 <;> simp [h0, h1]
  · unfold own_fr3 own_fresh; rw [r3]; simp only [List.all_cons, List.all_nil]
    by_cases h0 : K 0 = K 3 <;> by_cases h1 : K 1 = K 3 <;> by_cases h2 : K 2 = K 3 <;> simp [h0, h1, h2]
theorem own_bsE {K : Nat → Int32} {cn i : Nat} (hc : cn ≤ 4) (hi : i < 4) {lim n : Int32} (hl : lim = Int32.ofNat i) (hn : n = Int32.ofNat (own_cnt K (min i cn))) : own_bs (Int32.ofNat cn) lim (if own_fresh K i = true then 1 else 0) n = Int32.ofNat (own_cnt K (min (i + 1) cn)) := by
  subst hl hn
  unfold own_bs
  by_cases h : i < cn
  · rw [if_pos (own_olt h (by omega)), Nat.min_eq_left (by omega : i ≤ cn), Nat.min_eq_left (by omega : i + 1 ≤ cn), own_cnt]
    by_cases f : own_fresh K i = true
    · rw [if_pos f, if_neg (by decide), if_pos f, own_up1]
    · rw [if_neg f, if_pos rfl, if_neg f]
  · rw [if_neg (own_nlt h (by omega) (by omega)), Nat.min_eq_right (by omega : cn ≤ i), Nat.min_eq_right (by omega : cn ≤ i + 1)]
theorem own_bcE (K : Nat → Int32) {cn : Nat} (hc : cn ≤ 4) : own_bc (Int32.ofNat cn) (K 0) (K 1) (K 2) (K 3) = Int32.ofNat (own_cnt K cn) := by
  obtain ⟨f0, f1, f2, f3⟩ := own_frE (K := K)
  unfold own_bc
  rw [f0, f1, f2, f3]
  have e0 : (0 : Int32) = Int32.ofNat (own_cnt K (min 0 cn)) := by rw [Nat.min_eq_left (Nat.zero_le _)]; rfl
  rw [own_bsE hc (i := 3) (lim := 3) (by decide) rfl (own_bsE hc (i := 2) (lim := 2) (by decide) rfl (own_bsE hc (i := 1) (lim := 1) (by decide) rfl (own_bsE hc (i := 0) (lim := 0) (by decide) rfl e0)))]
  rw [Nat.min_eq_right (by omega)]
theorem own_lsE {K : Nat → Int32} {cn i q : Nat} (hc : cn ≤ 4) (hi : i < 4) (hq : q < 5) {lim r ld : Int32} (hl : lim = Int32.ofNat i) (hr : r = Int32.ofNat (own_cnt K (min i cn))) (hd : ld = Int32.ofNat (own_ldr K (min i cn) q)) : own_ls (Int32.ofNat cn) lim (if own_fresh K i = true then 1 else 0) r (Int32.ofNat q) ld = Int32.ofNat (own_ldr K (min (i + 1) cn) q) := by
  subst hl hr hd
  unfold own_ls
  by_cases h : i < cn
  · rw [if_pos (own_olt h (by omega)), Nat.min_eq_left (by omega : i ≤ cn), Nat.min_eq_left (by omega : i + 1 ≤ cn), own_ldr]
    by_cases f : own_fresh K i = true
    · have hl := own_cnt_le K i
      rw [if_pos f, if_neg (by decide)]
      by_cases e : q = own_cnt K i
      · rw [if_pos (by rw [e]), if_pos ⟨f, e⟩]
      · rw [if_neg (fun z => e (by have := congrArg Int32.toNatClampNeg z; rw [own_tn (by omega), own_tn (by omega)] at this; exact this.symm)), if_neg (fun z => e z.2)]
    · rw [if_neg f, if_pos rfl, if_neg (fun z => f z.1)]
  · rw [if_neg (own_nlt h (by omega) (by omega)), Nat.min_eq_right (by omega : cn ≤ i), Nat.min_eq_right (by omega : cn ≤ i + 1)]
theorem own_loE (K : Nat → Int32) {cn q : Nat} (hc : cn ≤ 4) (hq : q < 5) : own_lo (Int32.ofNat cn) (Int32.ofNat q) (K 0) (K 1) (K 2) (K 3) = Int32.ofNat (own_ldr K cn q) := by
  obtain ⟨f0, f1, f2, f3⟩ := own_frE (K := K)
  unfold own_lo
  rw [f0, f1, f2, f3]
  have e0 : (0 : Int32) = Int32.ofNat (own_cnt K (min 0 cn)) := by rw [Nat.min_eq_left (Nat.zero_le _)]; rfl
  have d0 : (0 : Int32) = Int32.ofNat (own_ldr K (min 0 cn) q) := by rw [Nat.min_eq_left (Nat.zero_le _)]; rfl
  have e1 := own_bsE hc (i := 0) (lim := 0) (by decide) rfl e0
  have e2 := own_bsE hc (i := 1) (lim := 1) (by decide) rfl e1
  have e3 := own_bsE hc (i := 2) (lim := 2) (by decide) rfl e2
  rw [own_lsE hc (i := 3) (lim := 3) (by decide) hq rfl e3 (own_lsE hc (i := 2) (lim := 2) (by decide) hq rfl e2 (own_lsE hc (i := 1) (lim := 1) (by decide) hq rfl e1 (own_lsE hc (i := 0) (lim := 0) (by decide) hq rfl e0 d0)))]
  rw [Nat.min_eq_right (by omega)]
theorem own_lwE (K : Nat → Int32) {cn d : Nat} (hc : cn ≤ 4) (hd : d < cn) : own_lw (Int32.ofNat cn) (Int32.ofNat d) [K 0, K 1, K 2, K 3] = Int32.ofNat (own_last K cn (K d)) := by
  have g : ∀ i, i < 4 → ([K 0, K 1, K 2, K 3] : List Int32).getD i 0 = K i := fun i hi => by
    match i, hi with
    | 0, _ => rfl
    | 1, _ => rfl
    | 2, _ => rfl
    | 3, _ => rfl
  unfold own_lw own_ws
  rw [own_tn (by omega), g 1 (by decide), g 2 (by decide), g 3 (by decide), g d (by omega)]
  have l : ∀ i : Nat, i < 4 → (((Int32.ofNat i) < (Int32.ofNat cn)) ↔ i < cn) := fun i hi => ⟨fun q => Classical.byContradiction fun z => own_nlt z (by omega) (by omega) q, fun q => own_olt q (by omega)⟩
  have l1 := l 1 (by decide)
  have l2 := l 2 (by decide)
  have l3 := l 3 (by decide)
  rw [show (1 : Int32) = Int32.ofNat 1 from rfl, show (2 : Int32) = Int32.ofNat 2 from rfl, show (3 : Int32) = Int32.ofNat 3 from rfl]
  simp only [l1, l2, l3]
  have hcd : (cn = 1 ∧ d = 0) ∨ (cn = 2 ∧ d = 0) ∨ (cn = 2 ∧ d = 1) ∨ (cn = 3 ∧ d = 0) ∨ (cn = 3 ∧ d = 1) ∨ (cn = 3 ∧ d = 2) ∨ (cn = 4 ∧ d = 0) ∨ (cn = 4 ∧ d = 1) ∨ (cn = 4 ∧ d = 2) ∨ (cn = 4 ∧ d = 3) := by omega
  rcases hcd with ⟨rfl, rfl⟩ | ⟨rfl, rfl⟩ | ⟨rfl, rfl⟩ | ⟨rfl, rfl⟩ | ⟨rfl, rfl⟩ | ⟨rfl, rfl⟩ | ⟨rfl, rfl⟩ | ⟨rfl, rfl⟩ | ⟨rfl, rfl⟩ | ⟨rfl, rfl⟩ <;> simp only [own_last, Nat.reduceLT, if_true, if_false] <;> (repeat' split) <;> first | rfl | omega | (exfalso; simp_all; done)
theorem own_and3 (x : Int32) : ∃ n, n < 4 ∧ x &&& (3 : Int32) = Int32.ofNat n := by
  have h : (x &&& 3).toBitVec.toNat < 4 := by
    simp only [Int32.toBitVec_and, BitVec.toNat_and]
    exact Nat.lt_succ_of_le Nat.and_le_right
  refine ⟨_, h, ?_⟩
  apply Int32.toBitVec_inj.mp
  show _ = BitVec.ofNat 32 _
  rw [BitVec.ofNat_toNat]; simp
theorem own_and7 (x : Int32) : ∃ n, n ≤ 4 ∧ (x &&& (7 : Int32)) % (5 : Int32) = Int32.ofNat n := by
  have h : (x &&& 7).toBitVec.toNat < 8 := by
    simp only [Int32.toBitVec_and, BitVec.toNat_and]
    exact Nat.lt_succ_of_le Nat.and_le_right
  have e : x &&& 7 = Int32.ofNat (x &&& 7).toBitVec.toNat := by
    apply Int32.toBitVec_inj.mp
    show _ = BitVec.ofNat 32 _
    rw [BitVec.ofNat_toNat]; simp
  rw [e]
  exact (by decide +kernel : ∀ n : Fin 8, ∃ m, m ≤ 4 ∧ (Int32.ofNat n.val) % (5 : Int32) = Int32.ofNat m) ⟨_, h⟩
theorem own_cap (x : Int32) : (4 : Int32) + (x &&& (3 : Int32)) = 4 ∨ (4 : Int32) + (x &&& (3 : Int32)) = 5 ∨ (4 : Int32) + (x &&& (3 : Int32)) = 6 ∨ (4 : Int32) + (x &&& (3 : Int32)) = 7 := by
  obtain ⟨n, h, e⟩ := own_and3 x
  rw [e]
  match n, h with
  | 0, _ => exact Or.inl rfl
  | 1, _ => exact Or.inr (Or.inl rfl)
  | 2, _ => exact Or.inr (Or.inr (Or.inl rfl))
  | 3, _ => exact Or.inr (Or.inr (Or.inr rfl))
theorem own_Vof {a b c d : Int32} : own_V [a &&& (3 : Int32), b &&& (3 : Int32), c &&& (3 : Int32), d &&& (3 : Int32)] := by
  have t : ∀ x : Int32, ¬ x &&& (3 : Int32) < 0 ∧ x &&& (3 : Int32) < (4 : Int32) := fun x => by
    obtain ⟨n, h, e⟩ := own_and3 x
    rw [e]; exact own_in4 h
  refine ⟨rfl, fun i hi => ?_⟩
  match i, hi with
  | 0, _ => exact t a
  | 1, _ => exact t b
  | 2, _ => exact t c
  | 3, _ => exact t d
theorem own_rem (x : Int32) {n : Nat} (h0 : ¬ Int32.ofNat n = 0) (hn : n ≤ 4) : ∃ q, q < n ∧ (x &&& (2147483647 : Int32)) % (Int32.ofNat n) = Int32.ofNat q := by
  have hn0 : n ≠ 0 := fun q => h0 (by rw [q]; rfl)
  have e := c_mask x (2147483647 : Int32) 31 (by decide) (by decide)
  have h0 : 0 ≤ (x &&& (2147483647 : Int32)).toInt := by rw [e]; exact Int.emod_nonneg _ (by decide)
  have en : (Int32.ofNat n).toInt = n := Int32.toInt_ofNat_small (by omega)
  have r : ((x &&& (2147483647 : Int32)) % (Int32.ofNat n)).toInt = (x &&& (2147483647 : Int32)).toInt % n := by
    rw [Int32.toInt_mod, en, Int.tmod_eq_emod_of_nonneg h0]
  have a1 := Int.emod_nonneg (x &&& (2147483647 : Int32)).toInt (by omega : (n : Int) ≠ 0)
  have a2 := Int.emod_lt_of_pos (x &&& (2147483647 : Int32)).toInt (by omega : (0 : Int) < n)
  rw [← r] at a1 a2
  generalize ((x &&& (2147483647 : Int32)) % (Int32.ofNat n)) = v at *
  refine ⟨v.toInt.toNat, by omega, ?_⟩
  apply Int32.toInt_inj.mp
  rw [Int32.toInt_ofNat_small (by omega)]; omega
theorem own_pd6 : parseMethodDescriptor "(I)V" = some ⟨[.int], none⟩ := by decide +kernel
theorem own_pd7 : parseMethodDescriptor "([II[I[[I)V" = some ⟨[(.array .int), .int, (.array .int), (.array (.array .int))], none⟩ := by decide +kernel
theorem own_pd8 : parseMethodDescriptor "([II)I" = some ⟨[(.array .int), .int], some .int⟩ := by decide +kernel
theorem own_pd9 : parseMethodDescriptor "()I" = some ⟨[], some .int⟩ := by decide +kernel
theorem own_pd10 : parseMethodDescriptor "([III)I" = some ⟨[(.array .int), .int, .int], some .int⟩ := by decide +kernel
theorem own_pn0 : plainName "com/example/faces_into_crowds/facesintocrowds/BucketsFirstPinLaw" = true := by first | (simp [plainName, overriddenIn]; done) | decide +kernel
theorem ef_rm0 (m : MethodId) (ja : Int64) (jb : Int64) (p2 : Int32) (p3 : Int32) (p4 : Int32) : entryFrame m #[(.long ja), (.long jb), (.int p2), (.int p3), (.int p4)] maxLocals = mkF m 0 #[.val (.long ja), .second, .val (.long jb), .second, .val (.int p2), .val (.int p3), .val (.int p4), .unset, .unset, .unset, .unset, .unset, .unset, .unset, .unset, .unset, .unset, .unset, .unset, .unset, .unset, .unset] [] := by first | (simp [entryFrame, mkF, argsToLocals, Value.category, maxLocals]; done) | rfl
def Q_rm0 (Z : State) (ja : Int64) (jb : Int64) (p2 : Int32) (p3 : Int32) (p4 : Int32) (h0 : Heap) (n0 : Nat) (v : Option Value) (h : Heap) (L : List Loc) : Prop := v = some (.int 1) ∧ Fr n0 L
set_option maxRecDepth 65536 in
set_option maxHeartbeats 40000000 in
theorem rm0 (l : Launch) (Z : State) (av0 : Array Value) (hw : ∀ d ∈ tables_1, d.before av0 Z = true) (ws : List Jvm.Cond) (ja : Int64) (jb : Int64) (p2 : Int32) (p3 : Int32) (p4 : Int32) (h0 : Heap) (n0 : Nat) (Z0 : n0 ≤ h0.size) :
    MetFree l x (head1 (Jvm.Cond.code x code maxLocals ret :: ws) room_1) (fun a U => a = #[(.long ja), (.long jb), (.int p2), (.int p3), (.int p4)] ∧ Z.Warmed39 U.vm ∧ U.heap = h0) (fun _ _ _ _ _ => True) (fun _ U o U' => ∃ v L, o = .returned v ∧ Q_rm0 Z ja jb p2 p3 p4 h0 n0 v U'.heap L ∧ FrameEnd U o U' L room_1.cells room_1.slots) := by
  refine MetFree.of_bodySF (plainFor_of_name own_pn0) hisR ?_
  intro p e s m args below meth c s₁ Bd hml0 hP hK
  obtain ⟨rfl, hZ, hh⟩ := hP
  have hx := Bd.exec
  have hby := Bd.bytes
  have hml : c.maxLocals = 22 := hml0
  have hown : s.vm.findClass "com/example/faces_into_crowds/facesintocrowds/BucketsFirstPinLaw" = some m.cls := findClass_of_methodNamed Bd.named
  have hnm := (name_of_methodNamed Bd.named Bd.method).1
  have X0 : Stand p l e room_1 s m #[(.long ja), (.long jb), (.int p2), (.int p3), (.int p4)] below meth c s₁ [] 0 0 := Stand.of_body Bd
  have e0 : s₁.heap = h0 := by rw [← hh, Bd.state]; rfl
  have N0 := Fr.nil n0
  refine OGo.by (P := fun U' o => ∃ v L, o = .returned v ∧ Q_rm0 Z ja jb p2 p3 p4 h0 n0 v U'.heap L ∧ FrameEnd s o U' L room_1.cells room_1.slots) (fun T_ k_ => castTop (ef_rm0 m ja jb p2 p3 p4) k_) ?_
  show OGo p e below _ (s₁.setTop (mkF m 0 #[.val (.long ja), .second, .val (.long jb), .second, .val (.int p2), .val (.int p3), .val (.int p4), .unset, .unset, .unset, .unset, .unset, .unset, .unset, .unset, .unset, .unset, .unset, .unset, .unset, .unset, .unset] []))
  refine OGo.by (fun _ k => XS.iconst X0.here hx rfl (hb hby at_0) k) ?_
  show OGo p e below _ (s₁.setTop (mkF m 1 #[.val (.long ja), .second, .val (.long jb), .second, .val (.int p2), .val (.int p3), .val (.int p4), .unset, .unset, .unset, .unset, .unset, .unset, .unset, .unset, .unset, .unset, .unset, .unset, .unset, .unset, .unset] [(.int (4 : Int32))]))
  obtain ⟨T1, h1, k1, X1, e1, E1, A1, XA1, st1⟩ := newPE X0 hx hZ (hw _ (List.mem_of_getElem? (i := 0) rfl)) e0 (g := (mkF m 1 #[.val (.long ja), .second, .val (.long jb), .second, .val (.int p2), .val (.int p3), .val (.int p4), .unset, .unset, .unset, .unset, .unset, .unset, .unset, .unset, .unset, .unset, .unset, .unset, .unset, .unset, .unset] [(.int (4 : Int32))])) rfl (hb hby at_1) rfl (by decide : ¬ ((4 : Int32) < (0 : Int32))) (cap := 4) (by decide) (by decide) (by decide) (by decide) (ad := "[I") (by decide)
  obtain ⟨b1, g1⟩ : ∃ z, z = h0.size := ⟨_, rfl⟩
  rw [← g1] at A1 XA1 st1
  have g_b1 : n0 ≤ b1 := Nat.le_trans Z0 (Nat.le_of_eq g1.symm)
  have sz_b1 : h0.size ≤ b1 := Nat.le_trans (Nat.le_refl _) (Nat.le_of_eq g1.symm)
  refine OGo.by st1 ?_
  have K1 : Keep h0 h1 [] := ((Keep.refl h0 [])).ext E1
  have V1 : Arv Z h1 b1 k1 .int (4 : Int32) [(.int (0 : Int32)), (.int (0 : Int32)), (.int (0 : Int32)), (.int (0 : Int32))] (.int (0 : Int32)) := (Arv.new A1 (by decide)).pad (pad_rep [] (.int (0 : Int32)) 4)
  show OGo p e below _ (T1.setTop (mkF m 3 #[.val (.long ja), .second, .val (.long jb), .second, .val (.int p2), .val (.int p3), .val (.int p4), .unset, .unset, .unset, .unset, .unset, .unset, .unset, .unset, .unset, .unset, .unset, .unset, .unset, .unset, .unset] [(.ref b1)]))
  refine OGo.by (fun _ k => XS.dup X1.here hx rfl (hb hby at_3) rfl rfl k) ?_
  show OGo p e below _ (T1.setTop (mkF m 4 #[.val (.long ja), .second, .val (.long jb), .second, .val (.int p2), .val (.int p3), .val (.int p4), .unset, .unset, .unset, .unset, .unset, .unset, .unset, .unset, .unset, .unset, .unset, .unset, .unset, .unset, .unset] [(.ref b1), (.ref b1)]))
  refine OGo.by (fun _ k => XS.iconst X1.here hx rfl (hb hby at_4) k) ?_
  show OGo p e below _ (T1.setTop (mkF m 5 #[.val (.long ja), .second, .val (.long jb), .second, .val (.int p2), .val (.int p3), .val (.int p4), .unset, .unset, .unset, .unset, .unset, .unset, .unset, .unset, .unset, .unset, .unset, .unset, .unset, .unset, .unset] [(.int (0 : Int32)), (.ref b1), (.ref b1)]))
  refine OGo.by (fun _ k => XS.lloadN X1.here hx rfl (hb hby at_5) rfl k) ?_
  show OGo p e below _ (T1.setTop (mkF m 6 #[.val (.long ja), .second, .val (.long jb), .second, .val (.int p2), .val (.int p3), .val (.int p4), .unset, .unset, .unset, .unset, .unset, .unset, .unset, .unset, .unset, .unset, .unset, .unset, .unset, .unset, .unset] [(.long ja), (.int (0 : Int32)), (.ref b1), (.ref b1)]))
  refine OGo.by (fun _ k => XS.l2i X1.here hx rfl (hb hby at_6) rfl k) ?_
  show OGo p e below _ (T1.setTop (mkF m 7 #[.val (.long ja), .second, .val (.long jb), .second, .val (.int p2), .val (.int p3), .val (.int p4), .unset, .unset, .unset, .unset, .unset, .unset, .unset, .unset, .unset, .unset, .unset, .unset, .unset, .unset, .unset] [(.int (ja.toInt32)), (.int (0 : Int32)), (.ref b1), (.ref b1)]))
  obtain ⟨cl2, Ar2, q2, S2, M2, Hs2, G2⟩ := id V1
  obtain ⟨T2, h2, X2, e2, W2, st2⟩ := stI X1 hx hZ e1 Ar2 (j := (0 : Int32)) (inb_of S2 ⟨(by decide), (by decide)⟩) (g := (mkF m 7 #[.val (.long ja), .second, .val (.long jb), .second, .val (.int p2), .val (.int p3), .val (.int p4), .unset, .unset, .unset, .unset, .unset, .unset, .unset, .unset, .unset, .unset, .unset, .unset, .unset, .unset, .unset] [(.int (ja.toInt32)), (.int (0 : Int32)), (.ref b1), (.ref b1)])) rfl rfl (hb hby at_7)
  refine OGo.by st2 ?_
  have N2 := Fr.snoc X2 N0 g_b1
  have K2 : Keep h0 h2 [] := (K1).wr W2 (Or.inr sz_b1)
  have V2 : Arv Z h2 b1 k1 .int (4 : Int32) [(.int (ja.toInt32)), (.int (0 : Int32)), (.int (0 : Int32)), (.int (0 : Int32))] (.int (0 : Int32)) := Arv.set Ar2 q2 S2 M2 Hs2 G2 rfl W2 0 rfl (Nat.le_of_ble_eq_true rfl)
  show OGo p e below _ (T2.setTop (mkF m 8 #[.val (.long ja), .second, .val (.long jb), .second, .val (.int p2), .val (.int p3), .val (.int p4), .unset, .unset, .unset, .unset, .unset, .unset, .unset, .unset, .unset, .unset, .unset, .unset, .unset, .unset, .unset] [(.ref b1)]))
  refine OGo.by (fun _ k => XS.dup X2.here hx rfl (hb hby at_8) rfl rfl k) ?_
  show OGo p e below _ (T2.setTop (mkF m 9 #[.val (.long ja), .second, .val (.long jb), .second, .val (.int p2), .val (.int p3), .val (.int p4), .unset, .unset, .unset, .unset, .unset, .unset, .unset, .unset, .unset, .unset, .unset, .unset, .unset, .unset, .unset] [(.ref b1), (.ref b1)]))
  refine OGo.by (fun _ k => XS.iconst X2.here hx rfl (hb hby at_9) k) ?_
  show OGo p e below _ (T2.setTop (mkF m 10 #[.val (.long ja), .second, .val (.long jb), .second, .val (.int p2), .val (.int p3), .val (.int p4), .unset, .unset, .unset, .unset, .unset, .unset, .unset, .unset, .unset, .unset, .unset, .unset, .unset, .unset, .unset] [(.int (1 : Int32)), (.ref b1), (.ref b1)]))
  refine OGo.by (fun _ k => XS.lloadN X2.here hx rfl (hb hby at_10) rfl k) ?_
  show OGo p e below _ (T2.setTop (mkF m 11 #[.val (.long ja), .second, .val (.long jb), .second, .val (.int p2), .val (.int p3), .val (.int p4), .unset, .unset, .unset, .unset, .unset, .unset, .unset, .unset, .unset, .unset, .unset, .unset, .unset, .unset, .unset] [(.long ja), (.int (1 : Int32)), (.ref b1), (.ref b1)]))
  refine OGo.by (fun _ k => XS.bipush X2.here hx rfl (hb hby at_11) k) ?_
  show OGo p e below _ (T2.setTop (mkF m 13 #[.val (.long ja), .second, .val (.long jb), .second, .val (.int p2), .val (.int p3), .val (.int p4), .unset, .unset, .unset, .unset, .unset, .unset, .unset, .unset, .unset, .unset, .unset, .unset, .unset, .unset, .unset] [(.int (32 : Int32)), (.long ja), (.int (1 : Int32)), (.ref b1), (.ref b1)]))
  refine OGo.by (fun _ k => XS.lushr X2.here hx rfl (hb hby at_13) rfl k) ?_
  show OGo p e below _ (T2.setTop (mkF m 14 #[.val (.long ja), .second, .val (.long jb), .second, .val (.int p2), .val (.int p3), .val (.int p4), .unset, .unset, .unset, .unset, .unset, .unset, .unset, .unset, .unset, .unset, .unset, .unset, .unset, .unset, .unset] [(.long ((ja.toUInt64 >>> ((32 : Int32) &&& 0x3f).toInt64.toUInt64).toInt64)), (.int (1 : Int32)), (.ref b1), (.ref b1)]))
  refine OGo.by (fun _ k => XS.l2i X2.here hx rfl (hb hby at_14) rfl k) ?_
  show OGo p e below _ (T2.setTop (mkF m 15 #[.val (.long ja), .second, .val (.long jb), .second, .val (.int p2), .val (.int p3), .val (.int p4), .unset, .unset, .unset, .unset, .unset, .unset, .unset, .unset, .unset, .unset, .unset, .unset, .unset, .unset, .unset] [(.int (((ja.toUInt64 >>> ((32 : Int32) &&& 0x3f).toInt64.toUInt64).toInt64).toInt32)), (.int (1 : Int32)), (.ref b1), (.ref b1)]))
  obtain ⟨cl3, Ar3, q3, S3, M3, Hs3, G3⟩ := id V2
  obtain ⟨T3, h3, X3, e3, W3, st3⟩ := stI X2 hx hZ e2 Ar3 (j := (1 : Int32)) (inb_of S3 ⟨(by decide), (by decide)⟩) (g := (mkF m 15 #[.val (.long ja), .second, .val (.long jb), .second, .val (.int p2), .val (.int p3), .val (.int p4), .unset, .unset, .unset, .unset, .unset, .unset, .unset, .unset, .unset, .unset, .unset, .unset, .unset, .unset, .unset] [(.int (((ja.toUInt64 >>> ((32 : Int32) &&& 0x3f).toInt64.toUInt64).toInt64).toInt32)), (.int (1 : Int32)), (.ref b1), (.ref b1)])) rfl rfl (hb hby at_15)
  refine OGo.by st3 ?_
  have N3 := Fr.snoc X3 N2 g_b1
  have K3 : Keep h0 h3 [] := (K2).wr W3 (Or.inr sz_b1)
  have V3 : Arv Z h3 b1 k1 .int (4 : Int32) [(.int (ja.toInt32)), (.int (((ja.toUInt64 >>> ((32 : Int32) &&& 0x3f).toInt64.toUInt64).toInt64).toInt32)), (.int (0 : Int32)), (.int (0 : Int32))] (.int (0 : Int32)) := Arv.set Ar3 q3 S3 M3 Hs3 G3 rfl W3 1 rfl (Nat.le_of_ble_eq_true rfl)
  show OGo p e below _ (T3.setTop (mkF m 16 #[.val (.long ja), .second, .val (.long jb), .second, .val (.int p2), .val (.int p3), .val (.int p4), .unset, .unset, .unset, .unset, .unset, .unset, .unset, .unset, .unset, .unset, .unset, .unset, .unset, .unset, .unset] [(.ref b1)]))
  refine OGo.by (fun _ k => XS.dup X3.here hx rfl (hb hby at_16) rfl rfl k) ?_
  show OGo p e below _ (T3.setTop (mkF m 17 #[.val (.long ja), .second, .val (.long jb), .second, .val (.int p2), .val (.int p3), .val (.int p4), .unset, .unset, .unset, .unset, .unset, .unset, .unset, .unset, .unset, .unset, .unset, .unset, .unset, .unset, .unset] [(.ref b1), (.ref b1)]))
  refine OGo.by (fun _ k => XS.iconst X3.here hx rfl (hb hby at_17) k) ?_
  show OGo p e below _ (T3.setTop (mkF m 18 #[.val (.long ja), .second, .val (.long jb), .second, .val (.int p2), .val (.int p3), .val (.int p4), .unset, .unset, .unset, .unset, .unset, .unset, .unset, .unset, .unset, .unset, .unset, .unset, .unset, .unset, .unset] [(.int (2 : Int32)), (.ref b1), (.ref b1)]))
  refine OGo.by (fun _ k => XS.lloadN X3.here hx rfl (hb hby at_18) rfl k) ?_
  show OGo p e below _ (T3.setTop (mkF m 19 #[.val (.long ja), .second, .val (.long jb), .second, .val (.int p2), .val (.int p3), .val (.int p4), .unset, .unset, .unset, .unset, .unset, .unset, .unset, .unset, .unset, .unset, .unset, .unset, .unset, .unset, .unset] [(.long jb), (.int (2 : Int32)), (.ref b1), (.ref b1)]))
  refine OGo.by (fun _ k => XS.l2i X3.here hx rfl (hb hby at_19) rfl k) ?_
  show OGo p e below _ (T3.setTop (mkF m 20 #[.val (.long ja), .second, .val (.long jb), .second, .val (.int p2), .val (.int p3), .val (.int p4), .unset, .unset, .unset, .unset, .unset, .unset, .unset, .unset, .unset, .unset, .unset, .unset, .unset, .unset, .unset] [(.int (jb.toInt32)), (.int (2 : Int32)), (.ref b1), (.ref b1)]))
  obtain ⟨cl4, Ar4, q4, S4, M4, Hs4, G4⟩ := id V3
  obtain ⟨T4, h4, X4, e4, W4, st4⟩ := stI X3 hx hZ e3 Ar4 (j := (2 : Int32)) (inb_of S4 ⟨(by decide), (by decide)⟩) (g := (mkF m 20 #[.val (.long ja), .second, .val (.long jb), .second, .val (.int p2), .val (.int p3), .val (.int p4), .unset, .unset, .unset, .unset, .unset, .unset, .unset, .unset, .unset, .unset, .unset, .unset, .unset, .unset, .unset] [(.int (jb.toInt32)), (.int (2 : Int32)), (.ref b1), (.ref b1)])) rfl rfl (hb hby at_20)
  refine OGo.by st4 ?_
  have N4 := Fr.snoc X4 N3 g_b1
  have K4 : Keep h0 h4 [] := (K3).wr W4 (Or.inr sz_b1)
  have V4 : Arv Z h4 b1 k1 .int (4 : Int32) [(.int (ja.toInt32)), (.int (((ja.toUInt64 >>> ((32 : Int32) &&& 0x3f).toInt64.toUInt64).toInt64).toInt32)), (.int (jb.toInt32)), (.int (0 : Int32))] (.int (0 : Int32)) := Arv.set Ar4 q4 S4 M4 Hs4 G4 rfl W4 2 rfl (Nat.le_of_ble_eq_true rfl)
  show OGo p e below _ (T4.setTop (mkF m 21 #[.val (.long ja), .second, .val (.long jb), .second, .val (.int p2), .val (.int p3), .val (.int p4), .unset, .unset, .unset, .unset, .unset, .unset, .unset, .unset, .unset, .unset, .unset, .unset, .unset, .unset, .unset] [(.ref b1)]))
  refine OGo.by (fun _ k => XS.dup X4.here hx rfl (hb hby at_21) rfl rfl k) ?_
  show OGo p e below _ (T4.setTop (mkF m 22 #[.val (.long ja), .second, .val (.long jb), .second, .val (.int p2), .val (.int p3), .val (.int p4), .unset, .unset, .unset, .unset, .unset, .unset, .unset, .unset, .unset, .unset, .unset, .unset, .unset, .unset, .unset] [(.ref b1), (.ref b1)]))
  refine OGo.by (fun _ k => XS.iconst X4.here hx rfl (hb hby at_22) k) ?_
  show OGo p e below _ (T4.setTop (mkF m 23 #[.val (.long ja), .second, .val (.long jb), .second, .val (.int p2), .val (.int p3), .val (.int p4), .unset, .unset, .unset, .unset, .unset, .unset, .unset, .unset, .unset, .unset, .unset, .unset, .unset, .unset, .unset] [(.int (3 : Int32)), (.ref b1), (.ref b1)]))
  refine OGo.by (fun _ k => XS.lloadN X4.here hx rfl (hb hby at_23) rfl k) ?_
  show OGo p e below _ (T4.setTop (mkF m 24 #[.val (.long ja), .second, .val (.long jb), .second, .val (.int p2), .val (.int p3), .val (.int p4), .unset, .unset, .unset, .unset, .unset, .unset, .unset, .unset, .unset, .unset, .unset, .unset, .unset, .unset, .unset] [(.long jb), (.int (3 : Int32)), (.ref b1), (.ref b1)]))
  refine OGo.by (fun _ k => XS.bipush X4.here hx rfl (hb hby at_24) k) ?_
  show OGo p e below _ (T4.setTop (mkF m 26 #[.val (.long ja), .second, .val (.long jb), .second, .val (.int p2), .val (.int p3), .val (.int p4), .unset, .unset, .unset, .unset, .unset, .unset, .unset, .unset, .unset, .unset, .unset, .unset, .unset, .unset, .unset] [(.int (32 : Int32)), (.long jb), (.int (3 : Int32)), (.ref b1), (.ref b1)]))
  refine OGo.by (fun _ k => XS.lushr X4.here hx rfl (hb hby at_26) rfl k) ?_
  show OGo p e below _ (T4.setTop (mkF m 27 #[.val (.long ja), .second, .val (.long jb), .second, .val (.int p2), .val (.int p3), .val (.int p4), .unset, .unset, .unset, .unset, .unset, .unset, .unset, .unset, .unset, .unset, .unset, .unset, .unset, .unset, .unset] [(.long ((jb.toUInt64 >>> ((32 : Int32) &&& 0x3f).toInt64.toUInt64).toInt64)), (.int (3 : Int32)), (.ref b1), (.ref b1)]))
  refine OGo.by (fun _ k => XS.l2i X4.here hx rfl (hb hby at_27) rfl k) ?_
  show OGo p e below _ (T4.setTop (mkF m 28 #[.val (.long ja), .second, .val (.long jb), .second, .val (.int p2), .val (.int p3), .val (.int p4), .unset, .unset, .unset, .unset, .unset, .unset, .unset, .unset, .unset, .unset, .unset, .unset, .unset, .unset, .unset] [(.int (((jb.toUInt64 >>> ((32 : Int32) &&& 0x3f).toInt64.toUInt64).toInt64).toInt32)), (.int (3 : Int32)), (.ref b1), (.ref b1)]))
  obtain ⟨cl5, Ar5, q5, S5, M5, Hs5, G5⟩ := id V4
  obtain ⟨T5, h5, X5, e5, W5, st5⟩ := stI X4 hx hZ e4 Ar5 (j := (3 : Int32)) (inb_of S5 ⟨(by decide), (by decide)⟩) (g := (mkF m 28 #[.val (.long ja), .second, .val (.long jb), .second, .val (.int p2), .val (.int p3), .val (.int p4), .unset, .unset, .unset, .unset, .unset, .unset, .unset, .unset, .unset, .unset, .unset, .unset, .unset, .unset, .unset] [(.int (((jb.toUInt64 >>> ((32 : Int32) &&& 0x3f).toInt64.toUInt64).toInt64).toInt32)), (.int (3 : Int32)), (.ref b1), (.ref b1)])) rfl rfl (hb hby at_28)
  refine OGo.by st5 ?_
  have N5 := Fr.snoc X5 N4 g_b1
  have K5 : Keep h0 h5 [] := (K4).wr W5 (Or.inr sz_b1)
  have V5 : Arv Z h5 b1 k1 .int (4 : Int32) [(.int (ja.toInt32)), (.int (((ja.toUInt64 >>> ((32 : Int32) &&& 0x3f).toInt64.toUInt64).toInt64).toInt32)), (.int (jb.toInt32)), (.int (((jb.toUInt64 >>> ((32 : Int32) &&& 0x3f).toInt64.toUInt64).toInt64).toInt32))] (.int (0 : Int32)) := Arv.set Ar5 q5 S5 M5 Hs5 G5 rfl W5 3 rfl (Nat.le_of_ble_eq_true rfl)
  show OGo p e below _ (T5.setTop (mkF m 29 #[.val (.long ja), .second, .val (.long jb), .second, .val (.int p2), .val (.int p3), .val (.int p4), .unset, .unset, .unset, .unset, .unset, .unset, .unset, .unset, .unset, .unset, .unset, .unset, .unset, .unset, .unset] [(.ref b1)]))
  obtain ⟨lr, hlr⟩ : ∃ z : List Int32, z = [(ja.toInt32), (((ja.toUInt64 >>> ((32 : Int32) &&& 0x3f).toInt64.toUInt64).toInt64).toInt32), (jb.toInt32), (((jb.toUInt64 >>> ((32 : Int32) &&& 0x3f).toInt64.toUInt64).toInt64).toInt32)] := ⟨_, rfl⟩
  have VS6 : Arv Z h5 b1 k1 .int (4 : Int32) (lr.map Value.int) (.int (0 : Int32)) := by rw [hlr]; exact V5
  have hl_lr : lr.length = 4 := by rw [hlr]; rfl
  refine OGo.by (fun _ k => XS.astore X5.here hx rfl (hb hby at_29) rfl rfl (l' := #[.val (.long ja), .second, .val (.long jb), .second, .val (.int p2), .val (.int p3), .val (.int p4), .val (.ref b1), .unset, .unset, .unset, .unset, .unset, .unset, .unset, .unset, .unset, .unset, .unset, .unset, .unset, .unset]) rfl k) ?_
  show OGo p e below _ (T5.setTop (mkF m 31 #[.val (.long ja), .second, .val (.long jb), .second, .val (.int p2), .val (.int p3), .val (.int p4), .val (.ref b1), .unset, .unset, .unset, .unset, .unset, .unset, .unset, .unset, .unset, .unset, .unset, .unset, .unset, .unset] []))
  refine OGo.by (fun _ k => XS.iconst X5.here hx rfl (hb hby at_31) k) ?_
  show OGo p e below _ (T5.setTop (mkF m 32 #[.val (.long ja), .second, .val (.long jb), .second, .val (.int p2), .val (.int p3), .val (.int p4), .val (.ref b1), .unset, .unset, .unset, .unset, .unset, .unset, .unset, .unset, .unset, .unset, .unset, .unset, .unset, .unset] [(.int (1 : Int32))]))
  obtain ⟨T7, h7, k7, X7, e7, E7, A7, XA7, O7, st7⟩ := newRA X5 hx hZ (C := "[I") (ty := .int) hown (by decide) (hw _ (List.mem_of_getElem? (i := 1) rfl)) (hw _ (List.mem_of_getElem? (i := 2) rfl)) e5 (g := (mkF m 32 #[.val (.long ja), .second, .val (.long jb), .second, .val (.int p2), .val (.int p3), .val (.int p4), .val (.ref b1), .unset, .unset, .unset, .unset, .unset, .unset, .unset, .unset, .unset, .unset, .unset, .unset, .unset, .unset] [(.int (1 : Int32))])) rfl (hb hby at_32) rfl (by decide : ¬ ((1 : Int32) < (0 : Int32))) (cap := 1) (by decide) (by decide) (by decide) (by decide) (ad := "[[I") (by decide)
  obtain ⟨b7, g7⟩ : ∃ z, z = h5.size := ⟨_, rfl⟩
  rw [← g7] at A7 XA7 st7
  have f8 : Exa Z h5 b1 "[I" := ((((XA1.wr W2).wr W3).wr W4).wr W5)
  have ne_b1_b7 : b1 ≠ b7 := Nat.ne_of_lt (Nat.lt_of_lt_of_le f8.lt (Nat.le_of_eq g7.symm))
  have g_b7 : n0 ≤ b7 := Nat.le_trans (Nat.le_trans Z0 K5.1) (Nat.le_of_eq g7.symm)
  have sz_b7 : h0.size ≤ b7 := Nat.le_trans K5.1 (Nat.le_of_eq g7.symm)
  refine OGo.by st7 ?_
  have K7 : Keep h0 h7 [] := (K5).ext E7
  have V7 : Arv Z h7 b7 k7 (.array .int) (1 : Int32) [.null] .null := (Arv.new A7 (by decide)).pad (pad_rep [] .null 1)
  show OGo p e below _ (T7.setTop (mkF m 35 #[.val (.long ja), .second, .val (.long jb), .second, .val (.int p2), .val (.int p3), .val (.int p4), .val (.ref b1), .unset, .unset, .unset, .unset, .unset, .unset, .unset, .unset, .unset, .unset, .unset, .unset, .unset, .unset] [(.ref b7)]))
  refine OGo.by (fun _ k => XS.dup X7.here hx rfl (hb hby at_35) rfl rfl k) ?_
  show OGo p e below _ (T7.setTop (mkF m 36 #[.val (.long ja), .second, .val (.long jb), .second, .val (.int p2), .val (.int p3), .val (.int p4), .val (.ref b1), .unset, .unset, .unset, .unset, .unset, .unset, .unset, .unset, .unset, .unset, .unset, .unset, .unset, .unset] [(.ref b7), (.ref b7)]))
  refine OGo.by (fun _ k => XS.iconst X7.here hx rfl (hb hby at_36) k) ?_
  show OGo p e below _ (T7.setTop (mkF m 37 #[.val (.long ja), .second, .val (.long jb), .second, .val (.int p2), .val (.int p3), .val (.int p4), .val (.ref b1), .unset, .unset, .unset, .unset, .unset, .unset, .unset, .unset, .unset, .unset, .unset, .unset, .unset, .unset] [(.int (0 : Int32)), (.ref b7), (.ref b7)]))
  refine OGo.by (fun _ k => XS.aload X7.here hx rfl (hb hby at_37) rfl rfl k) ?_
  show OGo p e below _ (T7.setTop (mkF m 39 #[.val (.long ja), .second, .val (.long jb), .second, .val (.int p2), .val (.int p3), .val (.int p4), .val (.ref b1), .unset, .unset, .unset, .unset, .unset, .unset, .unset, .unset, .unset, .unset, .unset, .unset, .unset, .unset] [(.ref b1), (.int (0 : Int32)), (.ref b7), (.ref b7)]))
  obtain ⟨cl9, Ar9, q9, S9, M9, Hs9, G9⟩ := id V7
  have f10 : Exa Z h7 b1 "[I" := (f8.ext E7)
  obtain ⟨T9, h9, X9, e9, W9, st9⟩ := stR X7 hx hZ e7 Ar9 (j := (0 : Int32)) (inb_of S9 ⟨(by decide), (by decide)⟩) rfl (Sto.ofVA Ar9 q9 O7 (Ins.self f10)) (g := (mkF m 39 #[.val (.long ja), .second, .val (.long jb), .second, .val (.int p2), .val (.int p3), .val (.int p4), .val (.ref b1), .unset, .unset, .unset, .unset, .unset, .unset, .unset, .unset, .unset, .unset, .unset, .unset, .unset, .unset] [(.ref b1), (.int (0 : Int32)), (.ref b7), (.ref b7)])) rfl rfl (hb hby at_39)
  refine OGo.by st9 ?_
  have N9 := Fr.snoc X9 N5 g_b7
  have K9 : Keep h0 h9 [] := (K7).wr W9 (Or.inr sz_b7)
  have V9 : Arv Z h9 b7 k7 (.array .int) (1 : Int32) [(.ref b1)] .null := Arv.set Ar9 q9 S9 M9 Hs9 G9 rfl W9 0 rfl (Nat.le_of_ble_eq_true rfl)
  show OGo p e below _ (T9.setTop (mkF m 40 #[.val (.long ja), .second, .val (.long jb), .second, .val (.int p2), .val (.int p3), .val (.int p4), .val (.ref b1), .unset, .unset, .unset, .unset, .unset, .unset, .unset, .unset, .unset, .unset, .unset, .unset, .unset, .unset] [(.ref b7)]))
  refine OGo.by (fun _ k => XS.astore X9.here hx rfl (hb hby at_40) rfl rfl (l' := #[.val (.long ja), .second, .val (.long jb), .second, .val (.int p2), .val (.int p3), .val (.int p4), .val (.ref b1), .val (.ref b7), .unset, .unset, .unset, .unset, .unset, .unset, .unset, .unset, .unset, .unset, .unset, .unset, .unset]) rfl k) ?_
  show OGo p e below _ (T9.setTop (mkF m 42 #[.val (.long ja), .second, .val (.long jb), .second, .val (.int p2), .val (.int p3), .val (.int p4), .val (.ref b1), .val (.ref b7), .unset, .unset, .unset, .unset, .unset, .unset, .unset, .unset, .unset, .unset, .unset, .unset, .unset] []))
  refine OGo.by (fun _ k => XS.iconst X9.here hx rfl (hb hby at_42) k) ?_
  show OGo p e below _ (T9.setTop (mkF m 43 #[.val (.long ja), .second, .val (.long jb), .second, .val (.int p2), .val (.int p3), .val (.int p4), .val (.ref b1), .val (.ref b7), .unset, .unset, .unset, .unset, .unset, .unset, .unset, .unset, .unset, .unset, .unset, .unset, .unset] [(.int (4 : Int32))]))
  obtain ⟨T11, h11, k11, X11, e11, E11, A11, st11⟩ := newP X9 hx hZ (hw _ (List.mem_of_getElem? (i := 0) rfl)) e9 (g := (mkF m 43 #[.val (.long ja), .second, .val (.long jb), .second, .val (.int p2), .val (.int p3), .val (.int p4), .val (.ref b1), .val (.ref b7), .unset, .unset, .unset, .unset, .unset, .unset, .unset, .unset, .unset, .unset, .unset, .unset, .unset] [(.int (4 : Int32))])) rfl (hb hby at_43) rfl (by decide : ¬ ((4 : Int32) < (0 : Int32))) (cap := 4) (by decide) (by decide) (by decide) (by decide)
  obtain ⟨b11, g11⟩ : ∃ z, z = h9.size := ⟨_, rfl⟩
  rw [← g11] at A11 st11
  have f12 : Exa Z h9 b1 "[I" := (f10.wr W9)
  have ne_b1_b11 : b1 ≠ b11 := Nat.ne_of_lt (Nat.lt_of_lt_of_le f12.lt (Nat.le_of_eq g11.symm))
  have ne_b7_b11 : b7 ≠ b11 := Nat.ne_of_lt (Nat.lt_of_lt_of_le V9.lt (Nat.le_of_eq g11.symm))
  have g_b11 : n0 ≤ b11 := Nat.le_trans (Nat.le_trans Z0 K9.1) (Nat.le_of_eq g11.symm)
  have sz_b11 : h0.size ≤ b11 := Nat.le_trans K9.1 (Nat.le_of_eq g11.symm)
  refine OGo.by st11 ?_
  have K11 : Keep h0 h11 [] := (K9).ext E11
  have V11 : Arv Z h11 b11 k11 .int (4 : Int32) [(.int (0 : Int32)), (.int (0 : Int32)), (.int (0 : Int32)), (.int (0 : Int32))] (.int (0 : Int32)) := (Arv.new A11 (by decide)).pad (pad_rep [] (.int (0 : Int32)) 4)
  show OGo p e below _ (T11.setTop (mkF m 45 #[.val (.long ja), .second, .val (.long jb), .second, .val (.int p2), .val (.int p3), .val (.int p4), .val (.ref b1), .val (.ref b7), .unset, .unset, .unset, .unset, .unset, .unset, .unset, .unset, .unset, .unset, .unset, .unset, .unset] [(.ref b11)]))
  refine OGo.by (fun _ k => XS.dup X11.here hx rfl (hb hby at_45) rfl rfl k) ?_
  show OGo p e below _ (T11.setTop (mkF m 46 #[.val (.long ja), .second, .val (.long jb), .second, .val (.int p2), .val (.int p3), .val (.int p4), .val (.ref b1), .val (.ref b7), .unset, .unset, .unset, .unset, .unset, .unset, .unset, .unset, .unset, .unset, .unset, .unset, .unset] [(.ref b11), (.ref b11)]))
  refine OGo.by (fun _ k => XS.iconst X11.here hx rfl (hb hby at_46) k) ?_
  show OGo p e below _ (T11.setTop (mkF m 47 #[.val (.long ja), .second, .val (.long jb), .second, .val (.int p2), .val (.int p3), .val (.int p4), .val (.ref b1), .val (.ref b7), .unset, .unset, .unset, .unset, .unset, .unset, .unset, .unset, .unset, .unset, .unset, .unset, .unset] [(.int (0 : Int32)), (.ref b11), (.ref b11)]))
  refine OGo.by (fun _ k => XS.iconst X11.here hx rfl (hb hby at_47) k) ?_
  show OGo p e below _ (T11.setTop (mkF m 48 #[.val (.long ja), .second, .val (.long jb), .second, .val (.int p2), .val (.int p3), .val (.int p4), .val (.ref b1), .val (.ref b7), .unset, .unset, .unset, .unset, .unset, .unset, .unset, .unset, .unset, .unset, .unset, .unset, .unset] [(.int (0 : Int32)), (.int (0 : Int32)), (.ref b11), (.ref b11)]))
  obtain ⟨cl13, Ar13, q13, S13, M13, Hs13, G13⟩ := id V11
  obtain ⟨T13, h13, X13, e13, W13, st13⟩ := stI X11 hx hZ e11 Ar13 (j := (0 : Int32)) (inb_of S13 ⟨(by decide), (by decide)⟩) (g := (mkF m 48 #[.val (.long ja), .second, .val (.long jb), .second, .val (.int p2), .val (.int p3), .val (.int p4), .val (.ref b1), .val (.ref b7), .unset, .unset, .unset, .unset, .unset, .unset, .unset, .unset, .unset, .unset, .unset, .unset, .unset] [(.int (0 : Int32)), (.int (0 : Int32)), (.ref b11), (.ref b11)])) rfl rfl (hb hby at_48)
  refine OGo.by st13 ?_
  have N13 := Fr.snoc X13 N9 g_b11
  have K13 : Keep h0 h13 [] := (K11).wr W13 (Or.inr sz_b11)
  have V13 : Arv Z h13 b11 k11 .int (4 : Int32) [(.int (0 : Int32)), (.int (0 : Int32)), (.int (0 : Int32)), (.int (0 : Int32))] (.int (0 : Int32)) := Arv.set Ar13 q13 S13 M13 Hs13 G13 rfl W13 0 rfl (Nat.le_of_ble_eq_true rfl)
  show OGo p e below _ (T13.setTop (mkF m 49 #[.val (.long ja), .second, .val (.long jb), .second, .val (.int p2), .val (.int p3), .val (.int p4), .val (.ref b1), .val (.ref b7), .unset, .unset, .unset, .unset, .unset, .unset, .unset, .unset, .unset, .unset, .unset, .unset, .unset] [(.ref b11)]))
  refine OGo.by (fun _ k => XS.dup X13.here hx rfl (hb hby at_49) rfl rfl k) ?_
  show OGo p e below _ (T13.setTop (mkF m 50 #[.val (.long ja), .second, .val (.long jb), .second, .val (.int p2), .val (.int p3), .val (.int p4), .val (.ref b1), .val (.ref b7), .unset, .unset, .unset, .unset, .unset, .unset, .unset, .unset, .unset, .unset, .unset, .unset, .unset] [(.ref b11), (.ref b11)]))
  refine OGo.by (fun _ k => XS.iconst X13.here hx rfl (hb hby at_50) k) ?_
  show OGo p e below _ (T13.setTop (mkF m 51 #[.val (.long ja), .second, .val (.long jb), .second, .val (.int p2), .val (.int p3), .val (.int p4), .val (.ref b1), .val (.ref b7), .unset, .unset, .unset, .unset, .unset, .unset, .unset, .unset, .unset, .unset, .unset, .unset, .unset] [(.int (1 : Int32)), (.ref b11), (.ref b11)]))
  refine OGo.by (fun _ k => XS.iconst X13.here hx rfl (hb hby at_51) k) ?_
  show OGo p e below _ (T13.setTop (mkF m 52 #[.val (.long ja), .second, .val (.long jb), .second, .val (.int p2), .val (.int p3), .val (.int p4), .val (.ref b1), .val (.ref b7), .unset, .unset, .unset, .unset, .unset, .unset, .unset, .unset, .unset, .unset, .unset, .unset, .unset] [(.int (1 : Int32)), (.int (1 : Int32)), (.ref b11), (.ref b11)]))
  obtain ⟨cl14, Ar14, q14, S14, M14, Hs14, G14⟩ := id V13
  obtain ⟨T14, h14, X14, e14, W14, st14⟩ := stI X13 hx hZ e13 Ar14 (j := (1 : Int32)) (inb_of S14 ⟨(by decide), (by decide)⟩) (g := (mkF m 52 #[.val (.long ja), .second, .val (.long jb), .second, .val (.int p2), .val (.int p3), .val (.int p4), .val (.ref b1), .val (.ref b7), .unset, .unset, .unset, .unset, .unset, .unset, .unset, .unset, .unset, .unset, .unset, .unset, .unset] [(.int (1 : Int32)), (.int (1 : Int32)), (.ref b11), (.ref b11)])) rfl rfl (hb hby at_52)
  refine OGo.by st14 ?_
  have N14 := Fr.snoc X14 N13 g_b11
  have K14 : Keep h0 h14 [] := (K13).wr W14 (Or.inr sz_b11)
  have V14 : Arv Z h14 b11 k11 .int (4 : Int32) [(.int (0 : Int32)), (.int (1 : Int32)), (.int (0 : Int32)), (.int (0 : Int32))] (.int (0 : Int32)) := Arv.set Ar14 q14 S14 M14 Hs14 G14 rfl W14 1 rfl (Nat.le_of_ble_eq_true rfl)
  show OGo p e below _ (T14.setTop (mkF m 53 #[.val (.long ja), .second, .val (.long jb), .second, .val (.int p2), .val (.int p3), .val (.int p4), .val (.ref b1), .val (.ref b7), .unset, .unset, .unset, .unset, .unset, .unset, .unset, .unset, .unset, .unset, .unset, .unset, .unset] [(.ref b11)]))
  refine OGo.by (fun _ k => XS.dup X14.here hx rfl (hb hby at_53) rfl rfl k) ?_
  show OGo p e below _ (T14.setTop (mkF m 54 #[.val (.long ja), .second, .val (.long jb), .second, .val (.int p2), .val (.int p3), .val (.int p4), .val (.ref b1), .val (.ref b7), .unset, .unset, .unset, .unset, .unset, .unset, .unset, .unset, .unset, .unset, .unset, .unset, .unset] [(.ref b11), (.ref b11)]))
  refine OGo.by (fun _ k => XS.iconst X14.here hx rfl (hb hby at_54) k) ?_
  show OGo p e below _ (T14.setTop (mkF m 55 #[.val (.long ja), .second, .val (.long jb), .second, .val (.int p2), .val (.int p3), .val (.int p4), .val (.ref b1), .val (.ref b7), .unset, .unset, .unset, .unset, .unset, .unset, .unset, .unset, .unset, .unset, .unset, .unset, .unset] [(.int (2 : Int32)), (.ref b11), (.ref b11)]))
  refine OGo.by (fun _ k => XS.iconst X14.here hx rfl (hb hby at_55) k) ?_
  show OGo p e below _ (T14.setTop (mkF m 56 #[.val (.long ja), .second, .val (.long jb), .second, .val (.int p2), .val (.int p3), .val (.int p4), .val (.ref b1), .val (.ref b7), .unset, .unset, .unset, .unset, .unset, .unset, .unset, .unset, .unset, .unset, .unset, .unset, .unset] [(.int (2 : Int32)), (.int (2 : Int32)), (.ref b11), (.ref b11)]))
  obtain ⟨cl15, Ar15, q15, S15, M15, Hs15, G15⟩ := id V14
  obtain ⟨T15, h15, X15, e15, W15, st15⟩ := stI X14 hx hZ e14 Ar15 (j := (2 : Int32)) (inb_of S15 ⟨(by decide), (by decide)⟩) (g := (mkF m 56 #[.val (.long ja), .second, .val (.long jb), .second, .val (.int p2), .val (.int p3), .val (.int p4), .val (.ref b1), .val (.ref b7), .unset, .unset, .unset, .unset, .unset, .unset, .unset, .unset, .unset, .unset, .unset, .unset, .unset] [(.int (2 : Int32)), (.int (2 : Int32)), (.ref b11), (.ref b11)])) rfl rfl (hb hby at_56)
  refine OGo.by st15 ?_
  have N15 := Fr.snoc X15 N14 g_b11
  have K15 : Keep h0 h15 [] := (K14).wr W15 (Or.inr sz_b11)
  have V15 : Arv Z h15 b11 k11 .int (4 : Int32) [(.int (0 : Int32)), (.int (1 : Int32)), (.int (2 : Int32)), (.int (0 : Int32))] (.int (0 : Int32)) := Arv.set Ar15 q15 S15 M15 Hs15 G15 rfl W15 2 rfl (Nat.le_of_ble_eq_true rfl)
  show OGo p e below _ (T15.setTop (mkF m 57 #[.val (.long ja), .second, .val (.long jb), .second, .val (.int p2), .val (.int p3), .val (.int p4), .val (.ref b1), .val (.ref b7), .unset, .unset, .unset, .unset, .unset, .unset, .unset, .unset, .unset, .unset, .unset, .unset, .unset] [(.ref b11)]))
  refine OGo.by (fun _ k => XS.dup X15.here hx rfl (hb hby at_57) rfl rfl k) ?_
  show OGo p e below _ (T15.setTop (mkF m 58 #[.val (.long ja), .second, .val (.long jb), .second, .val (.int p2), .val (.int p3), .val (.int p4), .val (.ref b1), .val (.ref b7), .unset, .unset, .unset, .unset, .unset, .unset, .unset, .unset, .unset, .unset, .unset, .unset, .unset] [(.ref b11), (.ref b11)]))
  refine OGo.by (fun _ k => XS.iconst X15.here hx rfl (hb hby at_58) k) ?_
  show OGo p e below _ (T15.setTop (mkF m 59 #[.val (.long ja), .second, .val (.long jb), .second, .val (.int p2), .val (.int p3), .val (.int p4), .val (.ref b1), .val (.ref b7), .unset, .unset, .unset, .unset, .unset, .unset, .unset, .unset, .unset, .unset, .unset, .unset, .unset] [(.int (3 : Int32)), (.ref b11), (.ref b11)]))
  refine OGo.by (fun _ k => XS.iconst X15.here hx rfl (hb hby at_59) k) ?_
  show OGo p e below _ (T15.setTop (mkF m 60 #[.val (.long ja), .second, .val (.long jb), .second, .val (.int p2), .val (.int p3), .val (.int p4), .val (.ref b1), .val (.ref b7), .unset, .unset, .unset, .unset, .unset, .unset, .unset, .unset, .unset, .unset, .unset, .unset, .unset] [(.int (3 : Int32)), (.int (3 : Int32)), (.ref b11), (.ref b11)]))
  obtain ⟨cl16, Ar16, q16, S16, M16, Hs16, G16⟩ := id V15
  obtain ⟨T16, h16, X16, e16, W16, st16⟩ := stI X15 hx hZ e15 Ar16 (j := (3 : Int32)) (inb_of S16 ⟨(by decide), (by decide)⟩) (g := (mkF m 60 #[.val (.long ja), .second, .val (.long jb), .second, .val (.int p2), .val (.int p3), .val (.int p4), .val (.ref b1), .val (.ref b7), .unset, .unset, .unset, .unset, .unset, .unset, .unset, .unset, .unset, .unset, .unset, .unset, .unset] [(.int (3 : Int32)), (.int (3 : Int32)), (.ref b11), (.ref b11)])) rfl rfl (hb hby at_60)
  refine OGo.by st16 ?_
  have N16 := Fr.snoc X16 N15 g_b11
  have K16 : Keep h0 h16 [] := (K15).wr W16 (Or.inr sz_b11)
  have V16 : Arv Z h16 b11 k11 .int (4 : Int32) [(.int (0 : Int32)), (.int (1 : Int32)), (.int (2 : Int32)), (.int (3 : Int32))] (.int (0 : Int32)) := Arv.set Ar16 q16 S16 M16 Hs16 G16 rfl W16 3 rfl (Nat.le_of_ble_eq_true rfl)
  show OGo p e below _ (T16.setTop (mkF m 61 #[.val (.long ja), .second, .val (.long jb), .second, .val (.int p2), .val (.int p3), .val (.int p4), .val (.ref b1), .val (.ref b7), .unset, .unset, .unset, .unset, .unset, .unset, .unset, .unset, .unset, .unset, .unset, .unset, .unset] [(.ref b11)]))
  have VS17 : Arv Z h16 b11 k11 .int (4 : Int32) (own_U.map Value.int) (.int (0 : Int32)) := V16
  refine OGo.by (fun _ k => XS.astore X16.here hx rfl (hb hby at_61) rfl rfl (l' := #[.val (.long ja), .second, .val (.long jb), .second, .val (.int p2), .val (.int p3), .val (.int p4), .val (.ref b1), .val (.ref b7), .val (.ref b11), .unset, .unset, .unset, .unset, .unset, .unset, .unset, .unset, .unset, .unset, .unset, .unset]) rfl k) ?_
  show OGo p e below _ (T16.setTop (mkF m 63 #[.val (.long ja), .second, .val (.long jb), .second, .val (.int p2), .val (.int p3), .val (.int p4), .val (.ref b1), .val (.ref b7), .val (.ref b11), .unset, .unset, .unset, .unset, .unset, .unset, .unset, .unset, .unset, .unset, .unset, .unset] []))
  refine OGo.by (fun _ k => XS.iconst X16.here hx rfl (hb hby at_63) k) ?_
  show OGo p e below _ (T16.setTop (mkF m 64 #[.val (.long ja), .second, .val (.long jb), .second, .val (.int p2), .val (.int p3), .val (.int p4), .val (.ref b1), .val (.ref b7), .val (.ref b11), .unset, .unset, .unset, .unset, .unset, .unset, .unset, .unset, .unset, .unset, .unset, .unset] [(.int (4 : Int32))]))
  obtain ⟨T18, h18, k18, X18, e18, E18, A18, st18⟩ := newP X16 hx hZ (hw _ (List.mem_of_getElem? (i := 0) rfl)) e16 (g := (mkF m 64 #[.val (.long ja), .second, .val (.long jb), .second, .val (.int p2), .val (.int p3), .val (.int p4), .val (.ref b1), .val (.ref b7), .val (.ref b11), .unset, .unset, .unset, .unset, .unset, .unset, .unset, .unset, .unset, .unset, .unset, .unset] [(.int (4 : Int32))])) rfl (hb hby at_64) rfl (by decide : ¬ ((4 : Int32) < (0 : Int32))) (cap := 4) (by decide) (by decide) (by decide) (by decide)
  obtain ⟨b18, g18⟩ : ∃ z, z = h16.size := ⟨_, rfl⟩
  rw [← g18] at A18 st18
  have f19 : Exa Z h16 b1 "[I" := (((((f12.ext E11).wr W13).wr W14).wr W15).wr W16)
  have ne_b1_b18 : b1 ≠ b18 := Nat.ne_of_lt (Nat.lt_of_lt_of_le f19.lt (Nat.le_of_eq g18.symm))
  have f20 : Arv Z h16 b7 k7 (.array .int) (1 : Int32) [(.ref b1)] .null := (((((V9.ext E11).other W13 ne_b7_b11).other W14 ne_b7_b11).other W15 ne_b7_b11).other W16 ne_b7_b11)
  have ne_b7_b18 : b7 ≠ b18 := Nat.ne_of_lt (Nat.lt_of_lt_of_le f20.lt (Nat.le_of_eq g18.symm))
  have ne_b11_b18 : b11 ≠ b18 := Nat.ne_of_lt (Nat.lt_of_lt_of_le VS17.lt (Nat.le_of_eq g18.symm))
  have g_b18 : n0 ≤ b18 := Nat.le_trans (Nat.le_trans Z0 K16.1) (Nat.le_of_eq g18.symm)
  have sz_b18 : h0.size ≤ b18 := Nat.le_trans K16.1 (Nat.le_of_eq g18.symm)
  refine OGo.by st18 ?_
  have K18 : Keep h0 h18 [] := (K16).ext E18
  have V18 : Arv Z h18 b18 k18 .int (4 : Int32) [(.int (0 : Int32)), (.int (0 : Int32)), (.int (0 : Int32)), (.int (0 : Int32))] (.int (0 : Int32)) := (Arv.new A18 (by decide)).pad (pad_rep [] (.int (0 : Int32)) 4)
  show OGo p e below _ (T18.setTop (mkF m 66 #[.val (.long ja), .second, .val (.long jb), .second, .val (.int p2), .val (.int p3), .val (.int p4), .val (.ref b1), .val (.ref b7), .val (.ref b11), .unset, .unset, .unset, .unset, .unset, .unset, .unset, .unset, .unset, .unset, .unset, .unset] [(.ref b18)]))
  refine OGo.by (fun _ k => XS.dup X18.here hx rfl (hb hby at_66) rfl rfl k) ?_
  show OGo p e below _ (T18.setTop (mkF m 67 #[.val (.long ja), .second, .val (.long jb), .second, .val (.int p2), .val (.int p3), .val (.int p4), .val (.ref b1), .val (.ref b7), .val (.ref b11), .unset, .unset, .unset, .unset, .unset, .unset, .unset, .unset, .unset, .unset, .unset, .unset] [(.ref b18), (.ref b18)]))
  refine OGo.by (fun _ k => XS.iconst X18.here hx rfl (hb hby at_67) k) ?_
  show OGo p e below _ (T18.setTop (mkF m 68 #[.val (.long ja), .second, .val (.long jb), .second, .val (.int p2), .val (.int p3), .val (.int p4), .val (.ref b1), .val (.ref b7), .val (.ref b11), .unset, .unset, .unset, .unset, .unset, .unset, .unset, .unset, .unset, .unset, .unset, .unset] [(.int (0 : Int32)), (.ref b18), (.ref b18)]))
  refine OGo.by (fun _ k => XS.iconst X18.here hx rfl (hb hby at_68) k) ?_
  show OGo p e below _ (T18.setTop (mkF m 69 #[.val (.long ja), .second, .val (.long jb), .second, .val (.int p2), .val (.int p3), .val (.int p4), .val (.ref b1), .val (.ref b7), .val (.ref b11), .unset, .unset, .unset, .unset, .unset, .unset, .unset, .unset, .unset, .unset, .unset, .unset] [(.int (0 : Int32)), (.int (0 : Int32)), (.ref b18), (.ref b18)]))
  obtain ⟨cl21, Ar21, q21, S21, M21, Hs21, G21⟩ := id V18
  obtain ⟨T21, h21, X21, e21, W21, st21⟩ := stI X18 hx hZ e18 Ar21 (j := (0 : Int32)) (inb_of S21 ⟨(by decide), (by decide)⟩) (g := (mkF m 69 #[.val (.long ja), .second, .val (.long jb), .second, .val (.int p2), .val (.int p3), .val (.int p4), .val (.ref b1), .val (.ref b7), .val (.ref b11), .unset, .unset, .unset, .unset, .unset, .unset, .unset, .unset, .unset, .unset, .unset, .unset] [(.int (0 : Int32)), (.int (0 : Int32)), (.ref b18), (.ref b18)])) rfl rfl (hb hby at_69)
  refine OGo.by st21 ?_
  have N21 := Fr.snoc X21 N16 g_b18
  have K21 : Keep h0 h21 [] := (K18).wr W21 (Or.inr sz_b18)
  have V21 : Arv Z h21 b18 k18 .int (4 : Int32) [(.int (0 : Int32)), (.int (0 : Int32)), (.int (0 : Int32)), (.int (0 : Int32))] (.int (0 : Int32)) := Arv.set Ar21 q21 S21 M21 Hs21 G21 rfl W21 0 rfl (Nat.le_of_ble_eq_true rfl)
  show OGo p e below _ (T21.setTop (mkF m 70 #[.val (.long ja), .second, .val (.long jb), .second, .val (.int p2), .val (.int p3), .val (.int p4), .val (.ref b1), .val (.ref b7), .val (.ref b11), .unset, .unset, .unset, .unset, .unset, .unset, .unset, .unset, .unset, .unset, .unset, .unset] [(.ref b18)]))
  refine OGo.by (fun _ k => XS.dup X21.here hx rfl (hb hby at_70) rfl rfl k) ?_
  show OGo p e below _ (T21.setTop (mkF m 71 #[.val (.long ja), .second, .val (.long jb), .second, .val (.int p2), .val (.int p3), .val (.int p4), .val (.ref b1), .val (.ref b7), .val (.ref b11), .unset, .unset, .unset, .unset, .unset, .unset, .unset, .unset, .unset, .unset, .unset, .unset] [(.ref b18), (.ref b18)]))
  refine OGo.by (fun _ k => XS.iconst X21.here hx rfl (hb hby at_71) k) ?_
  show OGo p e below _ (T21.setTop (mkF m 72 #[.val (.long ja), .second, .val (.long jb), .second, .val (.int p2), .val (.int p3), .val (.int p4), .val (.ref b1), .val (.ref b7), .val (.ref b11), .unset, .unset, .unset, .unset, .unset, .unset, .unset, .unset, .unset, .unset, .unset, .unset] [(.int (1 : Int32)), (.ref b18), (.ref b18)]))
  refine OGo.by (fun _ k => XS.iconst X21.here hx rfl (hb hby at_72) k) ?_
  show OGo p e below _ (T21.setTop (mkF m 73 #[.val (.long ja), .second, .val (.long jb), .second, .val (.int p2), .val (.int p3), .val (.int p4), .val (.ref b1), .val (.ref b7), .val (.ref b11), .unset, .unset, .unset, .unset, .unset, .unset, .unset, .unset, .unset, .unset, .unset, .unset] [(.int (1 : Int32)), (.int (1 : Int32)), (.ref b18), (.ref b18)]))
  obtain ⟨cl22, Ar22, q22, S22, M22, Hs22, G22⟩ := id V21
  obtain ⟨T22, h22, X22, e22, W22, st22⟩ := stI X21 hx hZ e21 Ar22 (j := (1 : Int32)) (inb_of S22 ⟨(by decide), (by decide)⟩) (g := (mkF m 73 #[.val (.long ja), .second, .val (.long jb), .second, .val (.int p2), .val (.int p3), .val (.int p4), .val (.ref b1), .val (.ref b7), .val (.ref b11), .unset, .unset, .unset, .unset, .unset, .unset, .unset, .unset, .unset, .unset, .unset, .unset] [(.int (1 : Int32)), (.int (1 : Int32)), (.ref b18), (.ref b18)])) rfl rfl (hb hby at_73)
  refine OGo.by st22 ?_
  have N22 := Fr.snoc X22 N21 g_b18
  have K22 : Keep h0 h22 [] := (K21).wr W22 (Or.inr sz_b18)
  have V22 : Arv Z h22 b18 k18 .int (4 : Int32) [(.int (0 : Int32)), (.int (1 : Int32)), (.int (0 : Int32)), (.int (0 : Int32))] (.int (0 : Int32)) := Arv.set Ar22 q22 S22 M22 Hs22 G22 rfl W22 1 rfl (Nat.le_of_ble_eq_true rfl)
  show OGo p e below _ (T22.setTop (mkF m 74 #[.val (.long ja), .second, .val (.long jb), .second, .val (.int p2), .val (.int p3), .val (.int p4), .val (.ref b1), .val (.ref b7), .val (.ref b11), .unset, .unset, .unset, .unset, .unset, .unset, .unset, .unset, .unset, .unset, .unset, .unset] [(.ref b18)]))
  refine OGo.by (fun _ k => XS.dup X22.here hx rfl (hb hby at_74) rfl rfl k) ?_
  show OGo p e below _ (T22.setTop (mkF m 75 #[.val (.long ja), .second, .val (.long jb), .second, .val (.int p2), .val (.int p3), .val (.int p4), .val (.ref b1), .val (.ref b7), .val (.ref b11), .unset, .unset, .unset, .unset, .unset, .unset, .unset, .unset, .unset, .unset, .unset, .unset] [(.ref b18), (.ref b18)]))
  refine OGo.by (fun _ k => XS.iconst X22.here hx rfl (hb hby at_75) k) ?_
  show OGo p e below _ (T22.setTop (mkF m 76 #[.val (.long ja), .second, .val (.long jb), .second, .val (.int p2), .val (.int p3), .val (.int p4), .val (.ref b1), .val (.ref b7), .val (.ref b11), .unset, .unset, .unset, .unset, .unset, .unset, .unset, .unset, .unset, .unset, .unset, .unset] [(.int (2 : Int32)), (.ref b18), (.ref b18)]))
  refine OGo.by (fun _ k => XS.iconst X22.here hx rfl (hb hby at_76) k) ?_
  show OGo p e below _ (T22.setTop (mkF m 77 #[.val (.long ja), .second, .val (.long jb), .second, .val (.int p2), .val (.int p3), .val (.int p4), .val (.ref b1), .val (.ref b7), .val (.ref b11), .unset, .unset, .unset, .unset, .unset, .unset, .unset, .unset, .unset, .unset, .unset, .unset] [(.int (2 : Int32)), (.int (2 : Int32)), (.ref b18), (.ref b18)]))
  obtain ⟨cl23, Ar23, q23, S23, M23, Hs23, G23⟩ := id V22
  obtain ⟨T23, h23, X23, e23, W23, st23⟩ := stI X22 hx hZ e22 Ar23 (j := (2 : Int32)) (inb_of S23 ⟨(by decide), (by decide)⟩) (g := (mkF m 77 #[.val (.long ja), .second, .val (.long jb), .second, .val (.int p2), .val (.int p3), .val (.int p4), .val (.ref b1), .val (.ref b7), .val (.ref b11), .unset, .unset, .unset, .unset, .unset, .unset, .unset, .unset, .unset, .unset, .unset, .unset] [(.int (2 : Int32)), (.int (2 : Int32)), (.ref b18), (.ref b18)])) rfl rfl (hb hby at_77)
  refine OGo.by st23 ?_
  have N23 := Fr.snoc X23 N22 g_b18
  have K23 : Keep h0 h23 [] := (K22).wr W23 (Or.inr sz_b18)
  have V23 : Arv Z h23 b18 k18 .int (4 : Int32) [(.int (0 : Int32)), (.int (1 : Int32)), (.int (2 : Int32)), (.int (0 : Int32))] (.int (0 : Int32)) := Arv.set Ar23 q23 S23 M23 Hs23 G23 rfl W23 2 rfl (Nat.le_of_ble_eq_true rfl)
  show OGo p e below _ (T23.setTop (mkF m 78 #[.val (.long ja), .second, .val (.long jb), .second, .val (.int p2), .val (.int p3), .val (.int p4), .val (.ref b1), .val (.ref b7), .val (.ref b11), .unset, .unset, .unset, .unset, .unset, .unset, .unset, .unset, .unset, .unset, .unset, .unset] [(.ref b18)]))
  refine OGo.by (fun _ k => XS.dup X23.here hx rfl (hb hby at_78) rfl rfl k) ?_
  show OGo p e below _ (T23.setTop (mkF m 79 #[.val (.long ja), .second, .val (.long jb), .second, .val (.int p2), .val (.int p3), .val (.int p4), .val (.ref b1), .val (.ref b7), .val (.ref b11), .unset, .unset, .unset, .unset, .unset, .unset, .unset, .unset, .unset, .unset, .unset, .unset] [(.ref b18), (.ref b18)]))
  refine OGo.by (fun _ k => XS.iconst X23.here hx rfl (hb hby at_79) k) ?_
  show OGo p e below _ (T23.setTop (mkF m 80 #[.val (.long ja), .second, .val (.long jb), .second, .val (.int p2), .val (.int p3), .val (.int p4), .val (.ref b1), .val (.ref b7), .val (.ref b11), .unset, .unset, .unset, .unset, .unset, .unset, .unset, .unset, .unset, .unset, .unset, .unset] [(.int (3 : Int32)), (.ref b18), (.ref b18)]))
  refine OGo.by (fun _ k => XS.iconst X23.here hx rfl (hb hby at_80) k) ?_
  show OGo p e below _ (T23.setTop (mkF m 81 #[.val (.long ja), .second, .val (.long jb), .second, .val (.int p2), .val (.int p3), .val (.int p4), .val (.ref b1), .val (.ref b7), .val (.ref b11), .unset, .unset, .unset, .unset, .unset, .unset, .unset, .unset, .unset, .unset, .unset, .unset] [(.int (3 : Int32)), (.int (3 : Int32)), (.ref b18), (.ref b18)]))
  obtain ⟨cl24, Ar24, q24, S24, M24, Hs24, G24⟩ := id V23
  obtain ⟨T24, h24, X24, e24, W24, st24⟩ := stI X23 hx hZ e23 Ar24 (j := (3 : Int32)) (inb_of S24 ⟨(by decide), (by decide)⟩) (g := (mkF m 81 #[.val (.long ja), .second, .val (.long jb), .second, .val (.int p2), .val (.int p3), .val (.int p4), .val (.ref b1), .val (.ref b7), .val (.ref b11), .unset, .unset, .unset, .unset, .unset, .unset, .unset, .unset, .unset, .unset, .unset, .unset] [(.int (3 : Int32)), (.int (3 : Int32)), (.ref b18), (.ref b18)])) rfl rfl (hb hby at_81)
  refine OGo.by st24 ?_
  have N24 := Fr.snoc X24 N23 g_b18
  have K24 : Keep h0 h24 [] := (K23).wr W24 (Or.inr sz_b18)
  have V24 : Arv Z h24 b18 k18 .int (4 : Int32) [(.int (0 : Int32)), (.int (1 : Int32)), (.int (2 : Int32)), (.int (3 : Int32))] (.int (0 : Int32)) := Arv.set Ar24 q24 S24 M24 Hs24 G24 rfl W24 3 rfl (Nat.le_of_ble_eq_true rfl)
  show OGo p e below _ (T24.setTop (mkF m 82 #[.val (.long ja), .second, .val (.long jb), .second, .val (.int p2), .val (.int p3), .val (.int p4), .val (.ref b1), .val (.ref b7), .val (.ref b11), .unset, .unset, .unset, .unset, .unset, .unset, .unset, .unset, .unset, .unset, .unset, .unset] [(.ref b18)]))
  have VS25 : Arv Z h24 b18 k18 .int (4 : Int32) (own_U.map Value.int) (.int (0 : Int32)) := V24
  refine OGo.by (fun _ k => XS.astore X24.here hx rfl (hb hby at_82) rfl rfl (l' := #[.val (.long ja), .second, .val (.long jb), .second, .val (.int p2), .val (.int p3), .val (.int p4), .val (.ref b1), .val (.ref b7), .val (.ref b11), .val (.ref b18), .unset, .unset, .unset, .unset, .unset, .unset, .unset, .unset, .unset, .unset, .unset]) rfl k) ?_
  show OGo p e below _ (T24.setTop (mkF m 84 #[.val (.long ja), .second, .val (.long jb), .second, .val (.int p2), .val (.int p3), .val (.int p4), .val (.ref b1), .val (.ref b7), .val (.ref b11), .val (.ref b18), .unset, .unset, .unset, .unset, .unset, .unset, .unset, .unset, .unset, .unset, .unset] []))
  refine OGo.by (fun _ k => XS.iconst X24.here hx rfl (hb hby at_84) k) ?_
  show OGo p e below _ (T24.setTop (mkF m 85 #[.val (.long ja), .second, .val (.long jb), .second, .val (.int p2), .val (.int p3), .val (.int p4), .val (.ref b1), .val (.ref b7), .val (.ref b11), .val (.ref b18), .unset, .unset, .unset, .unset, .unset, .unset, .unset, .unset, .unset, .unset, .unset] [(.int (4 : Int32))]))
  obtain ⟨T26, h26, k26, X26, e26, E26, A26, st26⟩ := newP X24 hx hZ (hw _ (List.mem_of_getElem? (i := 0) rfl)) e24 (g := (mkF m 85 #[.val (.long ja), .second, .val (.long jb), .second, .val (.int p2), .val (.int p3), .val (.int p4), .val (.ref b1), .val (.ref b7), .val (.ref b11), .val (.ref b18), .unset, .unset, .unset, .unset, .unset, .unset, .unset, .unset, .unset, .unset, .unset] [(.int (4 : Int32))])) rfl (hb hby at_85) rfl (by decide : ¬ ((4 : Int32) < (0 : Int32))) (cap := 4) (by decide) (by decide) (by decide) (by decide)
  obtain ⟨b26, g26⟩ : ∃ z, z = h24.size := ⟨_, rfl⟩
  rw [← g26] at A26 st26
  have f27 : Exa Z h24 b1 "[I" := (((((f19.ext E18).wr W21).wr W22).wr W23).wr W24)
  have ne_b1_b26 : b1 ≠ b26 := Nat.ne_of_lt (Nat.lt_of_lt_of_le f27.lt (Nat.le_of_eq g26.symm))
  have f28 : Arv Z h24 b7 k7 (.array .int) (1 : Int32) [(.ref b1)] .null := (((((f20.ext E18).other W21 ne_b7_b18).other W22 ne_b7_b18).other W23 ne_b7_b18).other W24 ne_b7_b18)
  have ne_b7_b26 : b7 ≠ b26 := Nat.ne_of_lt (Nat.lt_of_lt_of_le f28.lt (Nat.le_of_eq g26.symm))
  have f29 : Arv Z h24 b11 k11 .int (4 : Int32) (own_U.map Value.int) (.int (0 : Int32)) := (((((VS17.ext E18).other W21 ne_b11_b18).other W22 ne_b11_b18).other W23 ne_b11_b18).other W24 ne_b11_b18)
  have ne_b11_b26 : b11 ≠ b26 := Nat.ne_of_lt (Nat.lt_of_lt_of_le f29.lt (Nat.le_of_eq g26.symm))
  have ne_b18_b26 : b18 ≠ b26 := Nat.ne_of_lt (Nat.lt_of_lt_of_le VS25.lt (Nat.le_of_eq g26.symm))
  have g_b26 : n0 ≤ b26 := Nat.le_trans (Nat.le_trans Z0 K24.1) (Nat.le_of_eq g26.symm)
  have sz_b26 : h0.size ≤ b26 := Nat.le_trans K24.1 (Nat.le_of_eq g26.symm)
  refine OGo.by st26 ?_
  have K26 : Keep h0 h26 [] := (K24).ext E26
  have V26 : Arv Z h26 b26 k26 .int (4 : Int32) [(.int (0 : Int32)), (.int (0 : Int32)), (.int (0 : Int32)), (.int (0 : Int32))] (.int (0 : Int32)) := (Arv.new A26 (by decide)).pad (pad_rep [] (.int (0 : Int32)) 4)
  show OGo p e below _ (T26.setTop (mkF m 87 #[.val (.long ja), .second, .val (.long jb), .second, .val (.int p2), .val (.int p3), .val (.int p4), .val (.ref b1), .val (.ref b7), .val (.ref b11), .val (.ref b18), .unset, .unset, .unset, .unset, .unset, .unset, .unset, .unset, .unset, .unset, .unset] [(.ref b26)]))
  refine OGo.by (fun _ k => XS.dup X26.here hx rfl (hb hby at_87) rfl rfl k) ?_
  show OGo p e below _ (T26.setTop (mkF m 88 #[.val (.long ja), .second, .val (.long jb), .second, .val (.int p2), .val (.int p3), .val (.int p4), .val (.ref b1), .val (.ref b7), .val (.ref b11), .val (.ref b18), .unset, .unset, .unset, .unset, .unset, .unset, .unset, .unset, .unset, .unset, .unset] [(.ref b26), (.ref b26)]))
  refine OGo.by (fun _ k => XS.iconst X26.here hx rfl (hb hby at_88) k) ?_
  show OGo p e below _ (T26.setTop (mkF m 89 #[.val (.long ja), .second, .val (.long jb), .second, .val (.int p2), .val (.int p3), .val (.int p4), .val (.ref b1), .val (.ref b7), .val (.ref b11), .val (.ref b18), .unset, .unset, .unset, .unset, .unset, .unset, .unset, .unset, .unset, .unset, .unset] [(.int (0 : Int32)), (.ref b26), (.ref b26)]))
  refine OGo.by (fun _ k => XS.iload X26.here hx rfl (hb hby at_89) rfl k) ?_
  show OGo p e below _ (T26.setTop (mkF m 91 #[.val (.long ja), .second, .val (.long jb), .second, .val (.int p2), .val (.int p3), .val (.int p4), .val (.ref b1), .val (.ref b7), .val (.ref b11), .val (.ref b18), .unset, .unset, .unset, .unset, .unset, .unset, .unset, .unset, .unset, .unset, .unset] [(.int p2), (.int (0 : Int32)), (.ref b26), (.ref b26)]))
  refine OGo.by (fun _ k => XS.iconst X26.here hx rfl (hb hby at_91) k) ?_
  show OGo p e below _ (T26.setTop (mkF m 92 #[.val (.long ja), .second, .val (.long jb), .second, .val (.int p2), .val (.int p3), .val (.int p4), .val (.ref b1), .val (.ref b7), .val (.ref b11), .val (.ref b18), .unset, .unset, .unset, .unset, .unset, .unset, .unset, .unset, .unset, .unset, .unset] [(.int (3 : Int32)), (.int p2), (.int (0 : Int32)), (.ref b26), (.ref b26)]))
  refine OGo.by (fun _ k => XS.iand X26.here hx rfl (hb hby at_92) rfl k) ?_
  show OGo p e below _ (T26.setTop (mkF m 93 #[.val (.long ja), .second, .val (.long jb), .second, .val (.int p2), .val (.int p3), .val (.int p4), .val (.ref b1), .val (.ref b7), .val (.ref b11), .val (.ref b18), .unset, .unset, .unset, .unset, .unset, .unset, .unset, .unset, .unset, .unset, .unset] [(.int (p2 &&& (3 : Int32))), (.int (0 : Int32)), (.ref b26), (.ref b26)]))
  obtain ⟨cl30, Ar30, q30, S30, M30, Hs30, G30⟩ := id V26
  obtain ⟨T30, h30, X30, e30, W30, st30⟩ := stI X26 hx hZ e26 Ar30 (j := (0 : Int32)) (inb_of S30 ⟨(by decide), (by decide)⟩) (g := (mkF m 93 #[.val (.long ja), .second, .val (.long jb), .second, .val (.int p2), .val (.int p3), .val (.int p4), .val (.ref b1), .val (.ref b7), .val (.ref b11), .val (.ref b18), .unset, .unset, .unset, .unset, .unset, .unset, .unset, .unset, .unset, .unset, .unset] [(.int (p2 &&& (3 : Int32))), (.int (0 : Int32)), (.ref b26), (.ref b26)])) rfl rfl (hb hby at_93)
  refine OGo.by st30 ?_
  have N30 := Fr.snoc X30 N24 g_b26
  have K30 : Keep h0 h30 [] := (K26).wr W30 (Or.inr sz_b26)
  have V30 : Arv Z h30 b26 k26 .int (4 : Int32) [(.int (p2 &&& (3 : Int32))), (.int (0 : Int32)), (.int (0 : Int32)), (.int (0 : Int32))] (.int (0 : Int32)) := Arv.set Ar30 q30 S30 M30 Hs30 G30 rfl W30 0 rfl (Nat.le_of_ble_eq_true rfl)
  show OGo p e below _ (T30.setTop (mkF m 94 #[.val (.long ja), .second, .val (.long jb), .second, .val (.int p2), .val (.int p3), .val (.int p4), .val (.ref b1), .val (.ref b7), .val (.ref b11), .val (.ref b18), .unset, .unset, .unset, .unset, .unset, .unset, .unset, .unset, .unset, .unset, .unset] [(.ref b26)]))
  refine OGo.by (fun _ k => XS.dup X30.here hx rfl (hb hby at_94) rfl rfl k) ?_
  show OGo p e below _ (T30.setTop (mkF m 95 #[.val (.long ja), .second, .val (.long jb), .second, .val (.int p2), .val (.int p3), .val (.int p4), .val (.ref b1), .val (.ref b7), .val (.ref b11), .val (.ref b18), .unset, .unset, .unset, .unset, .unset, .unset, .unset, .unset, .unset, .unset, .unset] [(.ref b26), (.ref b26)]))
  refine OGo.by (fun _ k => XS.iconst X30.here hx rfl (hb hby at_95) k) ?_
  show OGo p e below _ (T30.setTop (mkF m 96 #[.val (.long ja), .second, .val (.long jb), .second, .val (.int p2), .val (.int p3), .val (.int p4), .val (.ref b1), .val (.ref b7), .val (.ref b11), .val (.ref b18), .unset, .unset, .unset, .unset, .unset, .unset, .unset, .unset, .unset, .unset, .unset] [(.int (1 : Int32)), (.ref b26), (.ref b26)]))
  refine OGo.by (fun _ k => XS.iload X30.here hx rfl (hb hby at_96) rfl k) ?_
  show OGo p e below _ (T30.setTop (mkF m 98 #[.val (.long ja), .second, .val (.long jb), .second, .val (.int p2), .val (.int p3), .val (.int p4), .val (.ref b1), .val (.ref b7), .val (.ref b11), .val (.ref b18), .unset, .unset, .unset, .unset, .unset, .unset, .unset, .unset, .unset, .unset, .unset] [(.int p2), (.int (1 : Int32)), (.ref b26), (.ref b26)]))
  refine OGo.by (fun _ k => XS.iconst X30.here hx rfl (hb hby at_98) k) ?_
  show OGo p e below _ (T30.setTop (mkF m 99 #[.val (.long ja), .second, .val (.long jb), .second, .val (.int p2), .val (.int p3), .val (.int p4), .val (.ref b1), .val (.ref b7), .val (.ref b11), .val (.ref b18), .unset, .unset, .unset, .unset, .unset, .unset, .unset, .unset, .unset, .unset, .unset] [(.int (2 : Int32)), (.int p2), (.int (1 : Int32)), (.ref b26), (.ref b26)]))
  refine OGo.by (fun _ k => XS.iushr X30.here hx rfl (hb hby at_99) rfl k) ?_
  show OGo p e below _ (T30.setTop (mkF m 100 #[.val (.long ja), .second, .val (.long jb), .second, .val (.int p2), .val (.int p3), .val (.int p4), .val (.ref b1), .val (.ref b7), .val (.ref b11), .val (.ref b18), .unset, .unset, .unset, .unset, .unset, .unset, .unset, .unset, .unset, .unset, .unset] [(.int ((p2.toUInt32 >>> ((2 : Int32) &&& 31).toUInt32).toInt32)), (.int (1 : Int32)), (.ref b26), (.ref b26)]))
  refine OGo.by (fun _ k => XS.iconst X30.here hx rfl (hb hby at_100) k) ?_
  show OGo p e below _ (T30.setTop (mkF m 101 #[.val (.long ja), .second, .val (.long jb), .second, .val (.int p2), .val (.int p3), .val (.int p4), .val (.ref b1), .val (.ref b7), .val (.ref b11), .val (.ref b18), .unset, .unset, .unset, .unset, .unset, .unset, .unset, .unset, .unset, .unset, .unset] [(.int (3 : Int32)), (.int ((p2.toUInt32 >>> ((2 : Int32) &&& 31).toUInt32).toInt32)), (.int (1 : Int32)), (.ref b26), (.ref b26)]))
  refine OGo.by (fun _ k => XS.iand X30.here hx rfl (hb hby at_101) rfl k) ?_
  show OGo p e below _ (T30.setTop (mkF m 102 #[.val (.long ja), .second, .val (.long jb), .second, .val (.int p2), .val (.int p3), .val (.int p4), .val (.ref b1), .val (.ref b7), .val (.ref b11), .val (.ref b18), .unset, .unset, .unset, .unset, .unset, .unset, .unset, .unset, .unset, .unset, .unset] [(.int (((p2.toUInt32 >>> ((2 : Int32) &&& 31).toUInt32).toInt32) &&& (3 : Int32))), (.int (1 : Int32)), (.ref b26), (.ref b26)]))
  obtain ⟨cl31, Ar31, q31, S31, M31, Hs31, G31⟩ := id V30
  obtain ⟨T31, h31, X31, e31, W31, st31⟩ := stI X30 hx hZ e30 Ar31 (j := (1 : Int32)) (inb_of S31 ⟨(by decide), (by decide)⟩) (g := (mkF m 102 #[.val (.long ja), .second, .val (.long jb), .second, .val (.int p2), .val (.int p3), .val (.int p4), .val (.ref b1), .val (.ref b7), .val (.ref b11), .val (.ref b18), .unset, .unset, .unset, .unset, .unset, .unset, .unset, .unset, .unset, .unset, .unset] [(.int (((p2.toUInt32 >>> ((2 : Int32) &&& 31).toUInt32).toInt32) &&& (3 : Int32))), (.int (1 : Int32)), (.ref b26), (.ref b26)])) rfl rfl (hb hby at_102)
  refine OGo.by st31 ?_
  have N31 := Fr.snoc X31 N30 g_b26
  have K31 : Keep h0 h31 [] := (K30).wr W31 (Or.inr sz_b26)
  have V31 : Arv Z h31 b26 k26 .int (4 : Int32) [(.int (p2 &&& (3 : Int32))), (.int (((p2.toUInt32 >>> ((2 : Int32) &&& 31).toUInt32).toInt32) &&& (3 : Int32))), (.int (0 : Int32)), (.int (0 : Int32))] (.int (0 : Int32)) := Arv.set Ar31 q31 S31 M31 Hs31 G31 rfl W31 1 rfl (Nat.le_of_ble_eq_true rfl)
  show OGo p e below _ (T31.setTop (mkF m 103 #[.val (.long ja), .second, .val (.long jb), .second, .val (.int p2), .val (.int p3), .val (.int p4), .val (.ref b1), .val (.ref b7), .val (.ref b11), .val (.ref b18), .unset, .unset, .unset, .unset, .unset, .unset, .unset, .unset, .unset, .unset, .unset] [(.ref b26)]))
  refine OGo.by (fun _ k => XS.dup X31.here hx rfl (hb hby at_103) rfl rfl k) ?_
  show OGo p e below _ (T31.setTop (mkF m 104 #[.val (.long ja), .second, .val (.long jb), .second, .val (.int p2), .val (.int p3), .val (.int p4), .val (.ref b1), .val (.ref b7), .val (.ref b11), .val (.ref b18), .unset, .unset, .unset, .unset, .unset, .unset, .unset, .unset, .unset, .unset, .unset] [(.ref b26), (.ref b26)]))
  refine OGo.by (fun _ k => XS.iconst X31.here hx rfl (hb hby at_104) k) ?_
  show OGo p e below _ (T31.setTop (mkF m 105 #[.val (.long ja), .second, .val (.long jb), .second, .val (.int p2), .val (.int p3), .val (.int p4), .val (.ref b1), .val (.ref b7), .val (.ref b11), .val (.ref b18), .unset, .unset, .unset, .unset, .unset, .unset, .unset, .unset, .unset, .unset, .unset] [(.int (2 : Int32)), (.ref b26), (.ref b26)]))
  refine OGo.by (fun _ k => XS.iload X31.here hx rfl (hb hby at_105) rfl k) ?_
  show OGo p e below _ (T31.setTop (mkF m 107 #[.val (.long ja), .second, .val (.long jb), .second, .val (.int p2), .val (.int p3), .val (.int p4), .val (.ref b1), .val (.ref b7), .val (.ref b11), .val (.ref b18), .unset, .unset, .unset, .unset, .unset, .unset, .unset, .unset, .unset, .unset, .unset] [(.int p2), (.int (2 : Int32)), (.ref b26), (.ref b26)]))
  refine OGo.by (fun _ k => XS.iconst X31.here hx rfl (hb hby at_107) k) ?_
  show OGo p e below _ (T31.setTop (mkF m 108 #[.val (.long ja), .second, .val (.long jb), .second, .val (.int p2), .val (.int p3), .val (.int p4), .val (.ref b1), .val (.ref b7), .val (.ref b11), .val (.ref b18), .unset, .unset, .unset, .unset, .unset, .unset, .unset, .unset, .unset, .unset, .unset] [(.int (4 : Int32)), (.int p2), (.int (2 : Int32)), (.ref b26), (.ref b26)]))
  refine OGo.by (fun _ k => XS.iushr X31.here hx rfl (hb hby at_108) rfl k) ?_
  show OGo p e below _ (T31.setTop (mkF m 109 #[.val (.long ja), .second, .val (.long jb), .second, .val (.int p2), .val (.int p3), .val (.int p4), .val (.ref b1), .val (.ref b7), .val (.ref b11), .val (.ref b18), .unset, .unset, .unset, .unset, .unset, .unset, .unset, .unset, .unset, .unset, .unset] [(.int ((p2.toUInt32 >>> ((4 : Int32) &&& 31).toUInt32).toInt32)), (.int (2 : Int32)), (.ref b26), (.ref b26)]))
  refine OGo.by (fun _ k => XS.iconst X31.here hx rfl (hb hby at_109) k) ?_
  show OGo p e below _ (T31.setTop (mkF m 110 #[.val (.long ja), .second, .val (.long jb), .second, .val (.int p2), .val (.int p3), .val (.int p4), .val (.ref b1), .val (.ref b7), .val (.ref b11), .val (.ref b18), .unset, .unset, .unset, .unset, .unset, .unset, .unset, .unset, .unset, .unset, .unset] [(.int (3 : Int32)), (.int ((p2.toUInt32 >>> ((4 : Int32) &&& 31).toUInt32).toInt32)), (.int (2 : Int32)), (.ref b26), (.ref b26)]))
  refine OGo.by (fun _ k => XS.iand X31.here hx rfl (hb hby at_110) rfl k) ?_
  show OGo p e below _ (T31.setTop (mkF m 111 #[.val (.long ja), .second, .val (.long jb), .second, .val (.int p2), .val (.int p3), .val (.int p4), .val (.ref b1), .val (.ref b7), .val (.ref b11), .val (.ref b18), .unset, .unset, .unset, .unset, .unset, .unset, .unset, .unset, .unset, .unset, .unset] [(.int (((p2.toUInt32 >>> ((4 : Int32) &&& 31).toUInt32).toInt32) &&& (3 : Int32))), (.int (2 : Int32)), (.ref b26), (.ref b26)]))
  obtain ⟨cl32, Ar32, q32, S32, M32, Hs32, G32⟩ := id V31
  obtain ⟨T32, h32, X32, e32, W32, st32⟩ := stI X31 hx hZ e31 Ar32 (j := (2 : Int32)) (inb_of S32 ⟨(by decide), (by decide)⟩) (g := (mkF m 111 #[.val (.long ja), .second, .val (.long jb), .second, .val (.int p2), .val (.int p3), .val (.int p4), .val (.ref b1), .val (.ref b7), .val (.ref b11), .val (.ref b18), .unset, .unset, .unset, .unset, .unset, .unset, .unset, .unset, .unset, .unset, .unset] [(.int (((p2.toUInt32 >>> ((4 : Int32) &&& 31).toUInt32).toInt32) &&& (3 : Int32))), (.int (2 : Int32)), (.ref b26), (.ref b26)])) rfl rfl (hb hby at_111)
  refine OGo.by st32 ?_
  have N32 := Fr.snoc X32 N31 g_b26
  have K32 : Keep h0 h32 [] := (K31).wr W32 (Or.inr sz_b26)
  have V32 : Arv Z h32 b26 k26 .int (4 : Int32) [(.int (p2 &&& (3 : Int32))), (.int (((p2.toUInt32 >>> ((2 : Int32) &&& 31).toUInt32).toInt32) &&& (3 : Int32))), (.int (((p2.toUInt32 >>> ((4 : Int32) &&& 31).toUInt32).toInt32) &&& (3 : Int32))), (.int (0 : Int32))] (.int (0 : Int32)) := Arv.set Ar32 q32 S32 M32 Hs32 G32 rfl W32 2 rfl (Nat.le_of_ble_eq_true rfl)
  show OGo p e below _ (T32.setTop (mkF m 112 #[.val (.long ja), .second, .val (.long jb), .second, .val (.int p2), .val (.int p3), .val (.int p4), .val (.ref b1), .val (.ref b7), .val (.ref b11), .val (.ref b18), .unset, .unset, .unset, .unset, .unset, .unset, .unset, .unset, .unset, .unset, .unset] [(.ref b26)]))
  refine OGo.by (fun _ k => XS.dup X32.here hx rfl (hb hby at_112) rfl rfl k) ?_
  show OGo p e below _ (T32.setTop (mkF m 113 #[.val (.long ja), .second, .val (.long jb), .second, .val (.int p2), .val (.int p3), .val (.int p4), .val (.ref b1), .val (.ref b7), .val (.ref b11), .val (.ref b18), .unset, .unset, .unset, .unset, .unset, .unset, .unset, .unset, .unset, .unset, .unset] [(.ref b26), (.ref b26)]))
  refine OGo.by (fun _ k => XS.iconst X32.here hx rfl (hb hby at_113) k) ?_
  show OGo p e below _ (T32.setTop (mkF m 114 #[.val (.long ja), .second, .val (.long jb), .second, .val (.int p2), .val (.int p3), .val (.int p4), .val (.ref b1), .val (.ref b7), .val (.ref b11), .val (.ref b18), .unset, .unset, .unset, .unset, .unset, .unset, .unset, .unset, .unset, .unset, .unset] [(.int (3 : Int32)), (.ref b26), (.ref b26)]))
  refine OGo.by (fun _ k => XS.iload X32.here hx rfl (hb hby at_114) rfl k) ?_
  show OGo p e below _ (T32.setTop (mkF m 116 #[.val (.long ja), .second, .val (.long jb), .second, .val (.int p2), .val (.int p3), .val (.int p4), .val (.ref b1), .val (.ref b7), .val (.ref b11), .val (.ref b18), .unset, .unset, .unset, .unset, .unset, .unset, .unset, .unset, .unset, .unset, .unset] [(.int p2), (.int (3 : Int32)), (.ref b26), (.ref b26)]))
  refine OGo.by (fun _ k => XS.bipush X32.here hx rfl (hb hby at_116) k) ?_
  show OGo p e below _ (T32.setTop (mkF m 118 #[.val (.long ja), .second, .val (.long jb), .second, .val (.int p2), .val (.int p3), .val (.int p4), .val (.ref b1), .val (.ref b7), .val (.ref b11), .val (.ref b18), .unset, .unset, .unset, .unset, .unset, .unset, .unset, .unset, .unset, .unset, .unset] [(.int (6 : Int32)), (.int p2), (.int (3 : Int32)), (.ref b26), (.ref b26)]))
  refine OGo.by (fun _ k => XS.iushr X32.here hx rfl (hb hby at_118) rfl k) ?_
  show OGo p e below _ (T32.setTop (mkF m 119 #[.val (.long ja), .second, .val (.long jb), .second, .val (.int p2), .val (.int p3), .val (.int p4), .val (.ref b1), .val (.ref b7), .val (.ref b11), .val (.ref b18), .unset, .unset, .unset, .unset, .unset, .unset, .unset, .unset, .unset, .unset, .unset] [(.int ((p2.toUInt32 >>> ((6 : Int32) &&& 31).toUInt32).toInt32)), (.int (3 : Int32)), (.ref b26), (.ref b26)]))
  refine OGo.by (fun _ k => XS.iconst X32.here hx rfl (hb hby at_119) k) ?_
  show OGo p e below _ (T32.setTop (mkF m 120 #[.val (.long ja), .second, .val (.long jb), .second, .val (.int p2), .val (.int p3), .val (.int p4), .val (.ref b1), .val (.ref b7), .val (.ref b11), .val (.ref b18), .unset, .unset, .unset, .unset, .unset, .unset, .unset, .unset, .unset, .unset, .unset] [(.int (3 : Int32)), (.int ((p2.toUInt32 >>> ((6 : Int32) &&& 31).toUInt32).toInt32)), (.int (3 : Int32)), (.ref b26), (.ref b26)]))
  refine OGo.by (fun _ k => XS.iand X32.here hx rfl (hb hby at_120) rfl k) ?_
  show OGo p e below _ (T32.setTop (mkF m 121 #[.val (.long ja), .second, .val (.long jb), .second, .val (.int p2), .val (.int p3), .val (.int p4), .val (.ref b1), .val (.ref b7), .val (.ref b11), .val (.ref b18), .unset, .unset, .unset, .unset, .unset, .unset, .unset, .unset, .unset, .unset, .unset] [(.int (((p2.toUInt32 >>> ((6 : Int32) &&& 31).toUInt32).toInt32) &&& (3 : Int32))), (.int (3 : Int32)), (.ref b26), (.ref b26)]))
  obtain ⟨cl33, Ar33, q33, S33, M33, Hs33, G33⟩ := id V32
  obtain ⟨T33, h33, X33, e33, W33, st33⟩ := stI X32 hx hZ e32 Ar33 (j := (3 : Int32)) (inb_of S33 ⟨(by decide), (by decide)⟩) (g := (mkF m 121 #[.val (.long ja), .second, .val (.long jb), .second, .val (.int p2), .val (.int p3), .val (.int p4), .val (.ref b1), .val (.ref b7), .val (.ref b11), .val (.ref b18), .unset, .unset, .unset, .unset, .unset, .unset, .unset, .unset, .unset, .unset, .unset] [(.int (((p2.toUInt32 >>> ((6 : Int32) &&& 31).toUInt32).toInt32) &&& (3 : Int32))), (.int (3 : Int32)), (.ref b26), (.ref b26)])) rfl rfl (hb hby at_121)
  refine OGo.by st33 ?_
  have N33 := Fr.snoc X33 N32 g_b26
  have K33 : Keep h0 h33 [] := (K32).wr W33 (Or.inr sz_b26)
  have V33 : Arv Z h33 b26 k26 .int (4 : Int32) [(.int (p2 &&& (3 : Int32))), (.int (((p2.toUInt32 >>> ((2 : Int32) &&& 31).toUInt32).toInt32) &&& (3 : Int32))), (.int (((p2.toUInt32 >>> ((4 : Int32) &&& 31).toUInt32).toInt32) &&& (3 : Int32))), (.int (((p2.toUInt32 >>> ((6 : Int32) &&& 31).toUInt32).toInt32) &&& (3 : Int32)))] (.int (0 : Int32)) := Arv.set Ar33 q33 S33 M33 Hs33 G33 rfl W33 3 rfl (Nat.le_of_ble_eq_true rfl)
  show OGo p e below _ (T33.setTop (mkF m 122 #[.val (.long ja), .second, .val (.long jb), .second, .val (.int p2), .val (.int p3), .val (.int p4), .val (.ref b1), .val (.ref b7), .val (.ref b11), .val (.ref b18), .unset, .unset, .unset, .unset, .unset, .unset, .unset, .unset, .unset, .unset, .unset] [(.ref b26)]))
  obtain ⟨lv1, hlv1⟩ : ∃ z : List Int32, z = [(p2 &&& (3 : Int32)), (((p2.toUInt32 >>> ((2 : Int32) &&& 31).toUInt32).toInt32) &&& (3 : Int32)), (((p2.toUInt32 >>> ((4 : Int32) &&& 31).toUInt32).toInt32) &&& (3 : Int32)), (((p2.toUInt32 >>> ((6 : Int32) &&& 31).toUInt32).toInt32) &&& (3 : Int32))] := ⟨_, rfl⟩
  have VS34 : Arv Z h33 b26 k26 .int (4 : Int32) (lv1.map Value.int) (.int (0 : Int32)) := by rw [hlv1]; exact V33
  have hV_lv1 : own_V lv1 := by rw [hlv1]; exact own_Vof
  refine OGo.by (fun _ k => XS.astore X33.here hx rfl (hb hby at_122) rfl rfl (l' := #[.val (.long ja), .second, .val (.long jb), .second, .val (.int p2), .val (.int p3), .val (.int p4), .val (.ref b1), .val (.ref b7), .val (.ref b11), .val (.ref b18), .val (.ref b26), .unset, .unset, .unset, .unset, .unset, .unset, .unset, .unset, .unset, .unset]) rfl k) ?_
  show OGo p e below _ (T33.setTop (mkF m 124 #[.val (.long ja), .second, .val (.long jb), .second, .val (.int p2), .val (.int p3), .val (.int p4), .val (.ref b1), .val (.ref b7), .val (.ref b11), .val (.ref b18), .val (.ref b26), .unset, .unset, .unset, .unset, .unset, .unset, .unset, .unset, .unset, .unset] []))
  refine OGo.by (fun _ k => XS.iload X33.here hx rfl (hb hby at_124) rfl k) ?_
  show OGo p e below _ (T33.setTop (mkF m 126 #[.val (.long ja), .second, .val (.long jb), .second, .val (.int p2), .val (.int p3), .val (.int p4), .val (.ref b1), .val (.ref b7), .val (.ref b11), .val (.ref b18), .val (.ref b26), .unset, .unset, .unset, .unset, .unset, .unset, .unset, .unset, .unset, .unset] [(.int p2)]))
  refine OGo.by (fun _ k => XS.bipush X33.here hx rfl (hb hby at_126) k) ?_
  show OGo p e below _ (T33.setTop (mkF m 128 #[.val (.long ja), .second, .val (.long jb), .second, .val (.int p2), .val (.int p3), .val (.int p4), .val (.ref b1), .val (.ref b7), .val (.ref b11), .val (.ref b18), .val (.ref b26), .unset, .unset, .unset, .unset, .unset, .unset, .unset, .unset, .unset, .unset] [(.int (8 : Int32)), (.int p2)]))
  refine OGo.by (fun _ k => XS.iushr X33.here hx rfl (hb hby at_128) rfl k) ?_
  show OGo p e below _ (T33.setTop (mkF m 129 #[.val (.long ja), .second, .val (.long jb), .second, .val (.int p2), .val (.int p3), .val (.int p4), .val (.ref b1), .val (.ref b7), .val (.ref b11), .val (.ref b18), .val (.ref b26), .unset, .unset, .unset, .unset, .unset, .unset, .unset, .unset, .unset, .unset] [(.int ((p2.toUInt32 >>> ((8 : Int32) &&& 31).toUInt32).toInt32))]))
  refine OGo.by (fun _ k => XS.bipush X33.here hx rfl (hb hby at_129) k) ?_
  show OGo p e below _ (T33.setTop (mkF m 131 #[.val (.long ja), .second, .val (.long jb), .second, .val (.int p2), .val (.int p3), .val (.int p4), .val (.ref b1), .val (.ref b7), .val (.ref b11), .val (.ref b18), .val (.ref b26), .unset, .unset, .unset, .unset, .unset, .unset, .unset, .unset, .unset, .unset] [(.int (7 : Int32)), (.int ((p2.toUInt32 >>> ((8 : Int32) &&& 31).toUInt32).toInt32))]))
  refine OGo.by (fun _ k => XS.iand X33.here hx rfl (hb hby at_131) rfl k) ?_
  show OGo p e below _ (T33.setTop (mkF m 132 #[.val (.long ja), .second, .val (.long jb), .second, .val (.int p2), .val (.int p3), .val (.int p4), .val (.ref b1), .val (.ref b7), .val (.ref b11), .val (.ref b18), .val (.ref b26), .unset, .unset, .unset, .unset, .unset, .unset, .unset, .unset, .unset, .unset] [(.int (((p2.toUInt32 >>> ((8 : Int32) &&& 31).toUInt32).toInt32) &&& (7 : Int32)))]))
  refine OGo.by (fun _ k => XS.iconst X33.here hx rfl (hb hby at_132) k) ?_
  show OGo p e below _ (T33.setTop (mkF m 133 #[.val (.long ja), .second, .val (.long jb), .second, .val (.int p2), .val (.int p3), .val (.int p4), .val (.ref b1), .val (.ref b7), .val (.ref b11), .val (.ref b18), .val (.ref b26), .unset, .unset, .unset, .unset, .unset, .unset, .unset, .unset, .unset, .unset] [(.int (5 : Int32)), (.int (((p2.toUInt32 >>> ((8 : Int32) &&& 31).toUInt32).toInt32) &&& (7 : Int32)))]))
  refine OGo.by (fun _ k => iremM X33 hx rfl (hb hby at_133) rfl (by decide) k) ?_
  show OGo p e below _ (T33.setTop (mkF m 134 #[.val (.long ja), .second, .val (.long jb), .second, .val (.int p2), .val (.int p3), .val (.int p4), .val (.ref b1), .val (.ref b7), .val (.ref b11), .val (.ref b18), .val (.ref b26), .unset, .unset, .unset, .unset, .unset, .unset, .unset, .unset, .unset, .unset] [(.int ((((p2.toUInt32 >>> ((8 : Int32) &&& 31).toUInt32).toInt32) &&& (7 : Int32)) % (5 : Int32)))]))
  obtain ⟨cn1, hle_cn1, he_cn1⟩ := own_and7 ((p2.toUInt32 >>> ((8 : Int32) &&& 31).toUInt32).toInt32)
  rw [he_cn1]
  show OGo p e below _ (T33.setTop (mkF m 134 #[.val (.long ja), .second, .val (.long jb), .second, .val (.int p2), .val (.int p3), .val (.int p4), .val (.ref b1), .val (.ref b7), .val (.ref b11), .val (.ref b18), .val (.ref b26), .unset, .unset, .unset, .unset, .unset, .unset, .unset, .unset, .unset, .unset] [(.int (Int32.ofNat cn1))]))
  refine OGo.by (fun _ k => XS.istore X33.here hx rfl (hb hby at_134) rfl (l' := #[.val (.long ja), .second, .val (.long jb), .second, .val (.int p2), .val (.int p3), .val (.int p4), .val (.ref b1), .val (.ref b7), .val (.ref b11), .val (.ref b18), .val (.ref b26), .val (.int (Int32.ofNat cn1)), .unset, .unset, .unset, .unset, .unset, .unset, .unset, .unset, .unset]) rfl k) ?_
  show OGo p e below _ (T33.setTop (mkF m 136 #[.val (.long ja), .second, .val (.long jb), .second, .val (.int p2), .val (.int p3), .val (.int p4), .val (.ref b1), .val (.ref b7), .val (.ref b11), .val (.ref b18), .val (.ref b26), .val (.int (Int32.ofNat cn1)), .unset, .unset, .unset, .unset, .unset, .unset, .unset, .unset, .unset] []))
  refine OGo.by (fun _ k => XS.iconst X33.here hx rfl (hb hby at_136) k) ?_
  show OGo p e below _ (T33.setTop (mkF m 137 #[.val (.long ja), .second, .val (.long jb), .second, .val (.int p2), .val (.int p3), .val (.int p4), .val (.ref b1), .val (.ref b7), .val (.ref b11), .val (.ref b18), .val (.ref b26), .val (.int (Int32.ofNat cn1)), .unset, .unset, .unset, .unset, .unset, .unset, .unset, .unset, .unset] [(.int (4 : Int32))]))
  refine OGo.by (fun _ k => XS.iload X33.here hx rfl (hb hby at_137) rfl k) ?_
  show OGo p e below _ (T33.setTop (mkF m 139 #[.val (.long ja), .second, .val (.long jb), .second, .val (.int p2), .val (.int p3), .val (.int p4), .val (.ref b1), .val (.ref b7), .val (.ref b11), .val (.ref b18), .val (.ref b26), .val (.int (Int32.ofNat cn1)), .unset, .unset, .unset, .unset, .unset, .unset, .unset, .unset, .unset] [(.int p2), (.int (4 : Int32))]))
  refine OGo.by (fun _ k => XS.bipush X33.here hx rfl (hb hby at_139) k) ?_
  show OGo p e below _ (T33.setTop (mkF m 141 #[.val (.long ja), .second, .val (.long jb), .second, .val (.int p2), .val (.int p3), .val (.int p4), .val (.ref b1), .val (.ref b7), .val (.ref b11), .val (.ref b18), .val (.ref b26), .val (.int (Int32.ofNat cn1)), .unset, .unset, .unset, .unset, .unset, .unset, .unset, .unset, .unset] [(.int (11 : Int32)), (.int p2), (.int (4 : Int32))]))
  refine OGo.by (fun _ k => XS.iushr X33.here hx rfl (hb hby at_141) rfl k) ?_
  show OGo p e below _ (T33.setTop (mkF m 142 #[.val (.long ja), .second, .val (.long jb), .second, .val (.int p2), .val (.int p3), .val (.int p4), .val (.ref b1), .val (.ref b7), .val (.ref b11), .val (.ref b18), .val (.ref b26), .val (.int (Int32.ofNat cn1)), .unset, .unset, .unset, .unset, .unset, .unset, .unset, .unset, .unset] [(.int ((p2.toUInt32 >>> ((11 : Int32) &&& 31).toUInt32).toInt32)), (.int (4 : Int32))]))
  refine OGo.by (fun _ k => XS.iconst X33.here hx rfl (hb hby at_142) k) ?_
  show OGo p e below _ (T33.setTop (mkF m 143 #[.val (.long ja), .second, .val (.long jb), .second, .val (.int p2), .val (.int p3), .val (.int p4), .val (.ref b1), .val (.ref b7), .val (.ref b11), .val (.ref b18), .val (.ref b26), .val (.int (Int32.ofNat cn1)), .unset, .unset, .unset, .unset, .unset, .unset, .unset, .unset, .unset] [(.int (3 : Int32)), (.int ((p2.toUInt32 >>> ((11 : Int32) &&& 31).toUInt32).toInt32)), (.int (4 : Int32))]))
  refine OGo.by (fun _ k => XS.iand X33.here hx rfl (hb hby at_143) rfl k) ?_
  show OGo p e below _ (T33.setTop (mkF m 144 #[.val (.long ja), .second, .val (.long jb), .second, .val (.int p2), .val (.int p3), .val (.int p4), .val (.ref b1), .val (.ref b7), .val (.ref b11), .val (.ref b18), .val (.ref b26), .val (.int (Int32.ofNat cn1)), .unset, .unset, .unset, .unset, .unset, .unset, .unset, .unset, .unset] [(.int (((p2.toUInt32 >>> ((11 : Int32) &&& 31).toUInt32).toInt32) &&& (3 : Int32))), (.int (4 : Int32))]))
  refine OGo.by (fun _ k => XS.iadd X33.here hx rfl (hb hby at_144) rfl k) ?_
  show OGo p e below _ (T33.setTop (mkF m 145 #[.val (.long ja), .second, .val (.long jb), .second, .val (.int p2), .val (.int p3), .val (.int p4), .val (.ref b1), .val (.ref b7), .val (.ref b11), .val (.ref b18), .val (.ref b26), .val (.int (Int32.ofNat cn1)), .unset, .unset, .unset, .unset, .unset, .unset, .unset, .unset, .unset] [(.int ((4 : Int32) + (((p2.toUInt32 >>> ((11 : Int32) &&& 31).toUInt32).toInt32) &&& (3 : Int32))))]))
  obtain ⟨cpv, hcpv⟩ : ∃ z, ((4 : Int32) + (((p2.toUInt32 >>> ((11 : Int32) &&& 31).toUInt32).toInt32) &&& (3 : Int32))) = z := ⟨_, rfl⟩
  have hcp := own_cap ((p2.toUInt32 >>> ((11 : Int32) &&& 31).toUInt32).toInt32)
  rw [hcpv] at hcp
  rw [hcpv]
  show OGo p e below _ (T33.setTop (mkF m 145 #[.val (.long ja), .second, .val (.long jb), .second, .val (.int p2), .val (.int p3), .val (.int p4), .val (.ref b1), .val (.ref b7), .val (.ref b11), .val (.ref b18), .val (.ref b26), .val (.int (Int32.ofNat cn1)), .unset, .unset, .unset, .unset, .unset, .unset, .unset, .unset, .unset] [(.int cpv)]))
  refine OGo.by (fun _ k => XS.istore X33.here hx rfl (hb hby at_145) rfl (l' := #[.val (.long ja), .second, .val (.long jb), .second, .val (.int p2), .val (.int p3), .val (.int p4), .val (.ref b1), .val (.ref b7), .val (.ref b11), .val (.ref b18), .val (.ref b26), .val (.int (Int32.ofNat cn1)), .val (.int cpv), .unset, .unset, .unset, .unset, .unset, .unset, .unset, .unset]) rfl k) ?_
  show OGo p e below _ (T33.setTop (mkF m 147 #[.val (.long ja), .second, .val (.long jb), .second, .val (.int p2), .val (.int p3), .val (.int p4), .val (.ref b1), .val (.ref b7), .val (.ref b11), .val (.ref b18), .val (.ref b26), .val (.int (Int32.ofNat cn1)), .val (.int cpv), .unset, .unset, .unset, .unset, .unset, .unset, .unset, .unset] []))
  refine OGo.by (fun _ k => XS.iconst X33.here hx rfl (hb hby at_147) k) ?_
  show OGo p e below _ (T33.setTop (mkF m 148 #[.val (.long ja), .second, .val (.long jb), .second, .val (.int p2), .val (.int p3), .val (.int p4), .val (.ref b1), .val (.ref b7), .val (.ref b11), .val (.ref b18), .val (.ref b26), .val (.int (Int32.ofNat cn1)), .val (.int cpv), .unset, .unset, .unset, .unset, .unset, .unset, .unset, .unset] [(.int (4 : Int32))]))
  obtain ⟨T35, h35, k35, X35, e35, E35, A35, st35⟩ := newP X33 hx hZ (hw _ (List.mem_of_getElem? (i := 0) rfl)) e33 (g := (mkF m 148 #[.val (.long ja), .second, .val (.long jb), .second, .val (.int p2), .val (.int p3), .val (.int p4), .val (.ref b1), .val (.ref b7), .val (.ref b11), .val (.ref b18), .val (.ref b26), .val (.int (Int32.ofNat cn1)), .val (.int cpv), .unset, .unset, .unset, .unset, .unset, .unset, .unset, .unset] [(.int (4 : Int32))])) rfl (hb hby at_148) rfl (by decide : ¬ ((4 : Int32) < (0 : Int32))) (cap := 4) (by decide) (by decide) (by decide) (by decide)
  obtain ⟨b35, g35⟩ : ∃ z, z = h33.size := ⟨_, rfl⟩
  rw [← g35] at A35 st35
  have f36 : Exa Z h33 b1 "[I" := (((((f27.ext E26).wr W30).wr W31).wr W32).wr W33)
  have ne_b1_b35 : b1 ≠ b35 := Nat.ne_of_lt (Nat.lt_of_lt_of_le f36.lt (Nat.le_of_eq g35.symm))
  have f37 : Arv Z h33 b7 k7 (.array .int) (1 : Int32) [(.ref b1)] .null := (((((f28.ext E26).other W30 ne_b7_b26).other W31 ne_b7_b26).other W32 ne_b7_b26).other W33 ne_b7_b26)
  have ne_b7_b35 : b7 ≠ b35 := Nat.ne_of_lt (Nat.lt_of_lt_of_le f37.lt (Nat.le_of_eq g35.symm))
  have f38 : Arv Z h33 b11 k11 .int (4 : Int32) (own_U.map Value.int) (.int (0 : Int32)) := (((((f29.ext E26).other W30 ne_b11_b26).other W31 ne_b11_b26).other W32 ne_b11_b26).other W33 ne_b11_b26)
  have ne_b11_b35 : b11 ≠ b35 := Nat.ne_of_lt (Nat.lt_of_lt_of_le f38.lt (Nat.le_of_eq g35.symm))
  have f39 : Arv Z h33 b18 k18 .int (4 : Int32) (own_U.map Value.int) (.int (0 : Int32)) := (((((VS25.ext E26).other W30 ne_b18_b26).other W31 ne_b18_b26).other W32 ne_b18_b26).other W33 ne_b18_b26)
  have ne_b18_b35 : b18 ≠ b35 := Nat.ne_of_lt (Nat.lt_of_lt_of_le f39.lt (Nat.le_of_eq g35.symm))
  have ne_b26_b35 : b26 ≠ b35 := Nat.ne_of_lt (Nat.lt_of_lt_of_le VS34.lt (Nat.le_of_eq g35.symm))
  have g_b35 : n0 ≤ b35 := Nat.le_trans (Nat.le_trans Z0 K33.1) (Nat.le_of_eq g35.symm)
  have sz_b35 : h0.size ≤ b35 := Nat.le_trans K33.1 (Nat.le_of_eq g35.symm)
  refine OGo.by st35 ?_
  have K35 : Keep h0 h35 [] := (K33).ext E35
  have V35 : Arv Z h35 b35 k35 .int (4 : Int32) [(.int (0 : Int32)), (.int (0 : Int32)), (.int (0 : Int32)), (.int (0 : Int32))] (.int (0 : Int32)) := (Arv.new A35 (by decide)).pad (pad_rep [] (.int (0 : Int32)) 4)
  show OGo p e below _ (T35.setTop (mkF m 150 #[.val (.long ja), .second, .val (.long jb), .second, .val (.int p2), .val (.int p3), .val (.int p4), .val (.ref b1), .val (.ref b7), .val (.ref b11), .val (.ref b18), .val (.ref b26), .val (.int (Int32.ofNat cn1)), .val (.int cpv), .unset, .unset, .unset, .unset, .unset, .unset, .unset, .unset] [(.ref b35)]))
  refine OGo.by (fun _ k => XS.dup X35.here hx rfl (hb hby at_150) rfl rfl k) ?_
  show OGo p e below _ (T35.setTop (mkF m 151 #[.val (.long ja), .second, .val (.long jb), .second, .val (.int p2), .val (.int p3), .val (.int p4), .val (.ref b1), .val (.ref b7), .val (.ref b11), .val (.ref b18), .val (.ref b26), .val (.int (Int32.ofNat cn1)), .val (.int cpv), .unset, .unset, .unset, .unset, .unset, .unset, .unset, .unset] [(.ref b35), (.ref b35)]))
  refine OGo.by (fun _ k => XS.iconst X35.here hx rfl (hb hby at_151) k) ?_
  show OGo p e below _ (T35.setTop (mkF m 152 #[.val (.long ja), .second, .val (.long jb), .second, .val (.int p2), .val (.int p3), .val (.int p4), .val (.ref b1), .val (.ref b7), .val (.ref b11), .val (.ref b18), .val (.ref b26), .val (.int (Int32.ofNat cn1)), .val (.int cpv), .unset, .unset, .unset, .unset, .unset, .unset, .unset, .unset] [(.int (0 : Int32)), (.ref b35), (.ref b35)]))
  refine OGo.by (fun _ k => XS.iload X35.here hx rfl (hb hby at_152) rfl k) ?_
  show OGo p e below _ (T35.setTop (mkF m 154 #[.val (.long ja), .second, .val (.long jb), .second, .val (.int p2), .val (.int p3), .val (.int p4), .val (.ref b1), .val (.ref b7), .val (.ref b11), .val (.ref b18), .val (.ref b26), .val (.int (Int32.ofNat cn1)), .val (.int cpv), .unset, .unset, .unset, .unset, .unset, .unset, .unset, .unset] [(.int p3), (.int (0 : Int32)), (.ref b35), (.ref b35)]))
  refine OGo.by (fun _ k => XS.iconst X35.here hx rfl (hb hby at_154) k) ?_
  show OGo p e below _ (T35.setTop (mkF m 155 #[.val (.long ja), .second, .val (.long jb), .second, .val (.int p2), .val (.int p3), .val (.int p4), .val (.ref b1), .val (.ref b7), .val (.ref b11), .val (.ref b18), .val (.ref b26), .val (.int (Int32.ofNat cn1)), .val (.int cpv), .unset, .unset, .unset, .unset, .unset, .unset, .unset, .unset] [(.int (3 : Int32)), (.int p3), (.int (0 : Int32)), (.ref b35), (.ref b35)]))
  refine OGo.by (fun _ k => XS.iand X35.here hx rfl (hb hby at_155) rfl k) ?_
  show OGo p e below _ (T35.setTop (mkF m 156 #[.val (.long ja), .second, .val (.long jb), .second, .val (.int p2), .val (.int p3), .val (.int p4), .val (.ref b1), .val (.ref b7), .val (.ref b11), .val (.ref b18), .val (.ref b26), .val (.int (Int32.ofNat cn1)), .val (.int cpv), .unset, .unset, .unset, .unset, .unset, .unset, .unset, .unset] [(.int (p3 &&& (3 : Int32))), (.int (0 : Int32)), (.ref b35), (.ref b35)]))
  obtain ⟨cl40, Ar40, q40, S40, M40, Hs40, G40⟩ := id V35
  obtain ⟨T40, h40, X40, e40, W40, st40⟩ := stI X35 hx hZ e35 Ar40 (j := (0 : Int32)) (inb_of S40 ⟨(by decide), (by decide)⟩) (g := (mkF m 156 #[.val (.long ja), .second, .val (.long jb), .second, .val (.int p2), .val (.int p3), .val (.int p4), .val (.ref b1), .val (.ref b7), .val (.ref b11), .val (.ref b18), .val (.ref b26), .val (.int (Int32.ofNat cn1)), .val (.int cpv), .unset, .unset, .unset, .unset, .unset, .unset, .unset, .unset] [(.int (p3 &&& (3 : Int32))), (.int (0 : Int32)), (.ref b35), (.ref b35)])) rfl rfl (hb hby at_156)
  refine OGo.by st40 ?_
  have N40 := Fr.snoc X40 N33 g_b35
  have K40 : Keep h0 h40 [] := (K35).wr W40 (Or.inr sz_b35)
  have V40 : Arv Z h40 b35 k35 .int (4 : Int32) [(.int (p3 &&& (3 : Int32))), (.int (0 : Int32)), (.int (0 : Int32)), (.int (0 : Int32))] (.int (0 : Int32)) := Arv.set Ar40 q40 S40 M40 Hs40 G40 rfl W40 0 rfl (Nat.le_of_ble_eq_true rfl)
  show OGo p e below _ (T40.setTop (mkF m 157 #[.val (.long ja), .second, .val (.long jb), .second, .val (.int p2), .val (.int p3), .val (.int p4), .val (.ref b1), .val (.ref b7), .val (.ref b11), .val (.ref b18), .val (.ref b26), .val (.int (Int32.ofNat cn1)), .val (.int cpv), .unset, .unset, .unset, .unset, .unset, .unset, .unset, .unset] [(.ref b35)]))
  refine OGo.by (fun _ k => XS.dup X40.here hx rfl (hb hby at_157) rfl rfl k) ?_
  show OGo p e below _ (T40.setTop (mkF m 158 #[.val (.long ja), .second, .val (.long jb), .second, .val (.int p2), .val (.int p3), .val (.int p4), .val (.ref b1), .val (.ref b7), .val (.ref b11), .val (.ref b18), .val (.ref b26), .val (.int (Int32.ofNat cn1)), .val (.int cpv), .unset, .unset, .unset, .unset, .unset, .unset, .unset, .unset] [(.ref b35), (.ref b35)]))
  refine OGo.by (fun _ k => XS.iconst X40.here hx rfl (hb hby at_158) k) ?_
  show OGo p e below _ (T40.setTop (mkF m 159 #[.val (.long ja), .second, .val (.long jb), .second, .val (.int p2), .val (.int p3), .val (.int p4), .val (.ref b1), .val (.ref b7), .val (.ref b11), .val (.ref b18), .val (.ref b26), .val (.int (Int32.ofNat cn1)), .val (.int cpv), .unset, .unset, .unset, .unset, .unset, .unset, .unset, .unset] [(.int (1 : Int32)), (.ref b35), (.ref b35)]))
  refine OGo.by (fun _ k => XS.iload X40.here hx rfl (hb hby at_159) rfl k) ?_
  show OGo p e below _ (T40.setTop (mkF m 161 #[.val (.long ja), .second, .val (.long jb), .second, .val (.int p2), .val (.int p3), .val (.int p4), .val (.ref b1), .val (.ref b7), .val (.ref b11), .val (.ref b18), .val (.ref b26), .val (.int (Int32.ofNat cn1)), .val (.int cpv), .unset, .unset, .unset, .unset, .unset, .unset, .unset, .unset] [(.int p3), (.int (1 : Int32)), (.ref b35), (.ref b35)]))
  refine OGo.by (fun _ k => XS.iconst X40.here hx rfl (hb hby at_161) k) ?_
  show OGo p e below _ (T40.setTop (mkF m 162 #[.val (.long ja), .second, .val (.long jb), .second, .val (.int p2), .val (.int p3), .val (.int p4), .val (.ref b1), .val (.ref b7), .val (.ref b11), .val (.ref b18), .val (.ref b26), .val (.int (Int32.ofNat cn1)), .val (.int cpv), .unset, .unset, .unset, .unset, .unset, .unset, .unset, .unset] [(.int (2 : Int32)), (.int p3), (.int (1 : Int32)), (.ref b35), (.ref b35)]))
  refine OGo.by (fun _ k => XS.iushr X40.here hx rfl (hb hby at_162) rfl k) ?_
  show OGo p e below _ (T40.setTop (mkF m 163 #[.val (.long ja), .second, .val (.long jb), .second, .val (.int p2), .val (.int p3), .val (.int p4), .val (.ref b1), .val (.ref b7), .val (.ref b11), .val (.ref b18), .val (.ref b26), .val (.int (Int32.ofNat cn1)), .val (.int cpv), .unset, .unset, .unset, .unset, .unset, .unset, .unset, .unset] [(.int ((p3.toUInt32 >>> ((2 : Int32) &&& 31).toUInt32).toInt32)), (.int (1 : Int32)), (.ref b35), (.ref b35)]))
  refine OGo.by (fun _ k => XS.iconst X40.here hx rfl (hb hby at_163) k) ?_
  show OGo p e below _ (T40.setTop (mkF m 164 #[.val (.long ja), .second, .val (.long jb), .second, .val (.int p2), .val (.int p3), .val (.int p4), .val (.ref b1), .val (.ref b7), .val (.ref b11), .val (.ref b18), .val (.ref b26), .val (.int (Int32.ofNat cn1)), .val (.int cpv), .unset, .unset, .unset, .unset, .unset, .unset, .unset, .unset] [(.int (3 : Int32)), (.int ((p3.toUInt32 >>> ((2 : Int32) &&& 31).toUInt32).toInt32)), (.int (1 : Int32)), (.ref b35), (.ref b35)]))
  refine OGo.by (fun _ k => XS.iand X40.here hx rfl (hb hby at_164) rfl k) ?_
  show OGo p e below _ (T40.setTop (mkF m 165 #[.val (.long ja), .second, .val (.long jb), .second, .val (.int p2), .val (.int p3), .val (.int p4), .val (.ref b1), .val (.ref b7), .val (.ref b11), .val (.ref b18), .val (.ref b26), .val (.int (Int32.ofNat cn1)), .val (.int cpv), .unset, .unset, .unset, .unset, .unset, .unset, .unset, .unset] [(.int (((p3.toUInt32 >>> ((2 : Int32) &&& 31).toUInt32).toInt32) &&& (3 : Int32))), (.int (1 : Int32)), (.ref b35), (.ref b35)]))
  obtain ⟨cl41, Ar41, q41, S41, M41, Hs41, G41⟩ := id V40
  obtain ⟨T41, h41, X41, e41, W41, st41⟩ := stI X40 hx hZ e40 Ar41 (j := (1 : Int32)) (inb_of S41 ⟨(by decide), (by decide)⟩) (g := (mkF m 165 #[.val (.long ja), .second, .val (.long jb), .second, .val (.int p2), .val (.int p3), .val (.int p4), .val (.ref b1), .val (.ref b7), .val (.ref b11), .val (.ref b18), .val (.ref b26), .val (.int (Int32.ofNat cn1)), .val (.int cpv), .unset, .unset, .unset, .unset, .unset, .unset, .unset, .unset] [(.int (((p3.toUInt32 >>> ((2 : Int32) &&& 31).toUInt32).toInt32) &&& (3 : Int32))), (.int (1 : Int32)), (.ref b35), (.ref b35)])) rfl rfl (hb hby at_165)
  refine OGo.by st41 ?_
  have N41 := Fr.snoc X41 N40 g_b35
  have K41 : Keep h0 h41 [] := (K40).wr W41 (Or.inr sz_b35)
  have V41 : Arv Z h41 b35 k35 .int (4 : Int32) [(.int (p3 &&& (3 : Int32))), (.int (((p3.toUInt32 >>> ((2 : Int32) &&& 31).toUInt32).toInt32) &&& (3 : Int32))), (.int (0 : Int32)), (.int (0 : Int32))] (.int (0 : Int32)) := Arv.set Ar41 q41 S41 M41 Hs41 G41 rfl W41 1 rfl (Nat.le_of_ble_eq_true rfl)
  show OGo p e below _ (T41.setTop (mkF m 166 #[.val (.long ja), .second, .val (.long jb), .second, .val (.int p2), .val (.int p3), .val (.int p4), .val (.ref b1), .val (.ref b7), .val (.ref b11), .val (.ref b18), .val (.ref b26), .val (.int (Int32.ofNat cn1)), .val (.int cpv), .unset, .unset, .unset, .unset, .unset, .unset, .unset, .unset] [(.ref b35)]))
  refine OGo.by (fun _ k => XS.dup X41.here hx rfl (hb hby at_166) rfl rfl k) ?_
  show OGo p e below _ (T41.setTop (mkF m 167 #[.val (.long ja), .second, .val (.long jb), .second, .val (.int p2), .val (.int p3), .val (.int p4), .val (.ref b1), .val (.ref b7), .val (.ref b11), .val (.ref b18), .val (.ref b26), .val (.int (Int32.ofNat cn1)), .val (.int cpv), .unset, .unset, .unset, .unset, .unset, .unset, .unset, .unset] [(.ref b35), (.ref b35)]))
  refine OGo.by (fun _ k => XS.iconst X41.here hx rfl (hb hby at_167) k) ?_
  show OGo p e below _ (T41.setTop (mkF m 168 #[.val (.long ja), .second, .val (.long jb), .second, .val (.int p2), .val (.int p3), .val (.int p4), .val (.ref b1), .val (.ref b7), .val (.ref b11), .val (.ref b18), .val (.ref b26), .val (.int (Int32.ofNat cn1)), .val (.int cpv), .unset, .unset, .unset, .unset, .unset, .unset, .unset, .unset] [(.int (2 : Int32)), (.ref b35), (.ref b35)]))
  refine OGo.by (fun _ k => XS.iload X41.here hx rfl (hb hby at_168) rfl k) ?_
  show OGo p e below _ (T41.setTop (mkF m 170 #[.val (.long ja), .second, .val (.long jb), .second, .val (.int p2), .val (.int p3), .val (.int p4), .val (.ref b1), .val (.ref b7), .val (.ref b11), .val (.ref b18), .val (.ref b26), .val (.int (Int32.ofNat cn1)), .val (.int cpv), .unset, .unset, .unset, .unset, .unset, .unset, .unset, .unset] [(.int p3), (.int (2 : Int32)), (.ref b35), (.ref b35)]))
  refine OGo.by (fun _ k => XS.iconst X41.here hx rfl (hb hby at_170) k) ?_
  show OGo p e below _ (T41.setTop (mkF m 171 #[.val (.long ja), .second, .val (.long jb), .second, .val (.int p2), .val (.int p3), .val (.int p4), .val (.ref b1), .val (.ref b7), .val (.ref b11), .val (.ref b18), .val (.ref b26), .val (.int (Int32.ofNat cn1)), .val (.int cpv), .unset, .unset, .unset, .unset, .unset, .unset, .unset, .unset] [(.int (4 : Int32)), (.int p3), (.int (2 : Int32)), (.ref b35), (.ref b35)]))
  refine OGo.by (fun _ k => XS.iushr X41.here hx rfl (hb hby at_171) rfl k) ?_
  show OGo p e below _ (T41.setTop (mkF m 172 #[.val (.long ja), .second, .val (.long jb), .second, .val (.int p2), .val (.int p3), .val (.int p4), .val (.ref b1), .val (.ref b7), .val (.ref b11), .val (.ref b18), .val (.ref b26), .val (.int (Int32.ofNat cn1)), .val (.int cpv), .unset, .unset, .unset, .unset, .unset, .unset, .unset, .unset] [(.int ((p3.toUInt32 >>> ((4 : Int32) &&& 31).toUInt32).toInt32)), (.int (2 : Int32)), (.ref b35), (.ref b35)]))
  refine OGo.by (fun _ k => XS.iconst X41.here hx rfl (hb hby at_172) k) ?_
  show OGo p e below _ (T41.setTop (mkF m 173 #[.val (.long ja), .second, .val (.long jb), .second, .val (.int p2), .val (.int p3), .val (.int p4), .val (.ref b1), .val (.ref b7), .val (.ref b11), .val (.ref b18), .val (.ref b26), .val (.int (Int32.ofNat cn1)), .val (.int cpv), .unset, .unset, .unset, .unset, .unset, .unset, .unset, .unset] [(.int (3 : Int32)), (.int ((p3.toUInt32 >>> ((4 : Int32) &&& 31).toUInt32).toInt32)), (.int (2 : Int32)), (.ref b35), (.ref b35)]))
  refine OGo.by (fun _ k => XS.iand X41.here hx rfl (hb hby at_173) rfl k) ?_
  show OGo p e below _ (T41.setTop (mkF m 174 #[.val (.long ja), .second, .val (.long jb), .second, .val (.int p2), .val (.int p3), .val (.int p4), .val (.ref b1), .val (.ref b7), .val (.ref b11), .val (.ref b18), .val (.ref b26), .val (.int (Int32.ofNat cn1)), .val (.int cpv), .unset, .unset, .unset, .unset, .unset, .unset, .unset, .unset] [(.int (((p3.toUInt32 >>> ((4 : Int32) &&& 31).toUInt32).toInt32) &&& (3 : Int32))), (.int (2 : Int32)), (.ref b35), (.ref b35)]))
  obtain ⟨cl42, Ar42, q42, S42, M42, Hs42, G42⟩ := id V41
  obtain ⟨T42, h42, X42, e42, W42, st42⟩ := stI X41 hx hZ e41 Ar42 (j := (2 : Int32)) (inb_of S42 ⟨(by decide), (by decide)⟩) (g := (mkF m 174 #[.val (.long ja), .second, .val (.long jb), .second, .val (.int p2), .val (.int p3), .val (.int p4), .val (.ref b1), .val (.ref b7), .val (.ref b11), .val (.ref b18), .val (.ref b26), .val (.int (Int32.ofNat cn1)), .val (.int cpv), .unset, .unset, .unset, .unset, .unset, .unset, .unset, .unset] [(.int (((p3.toUInt32 >>> ((4 : Int32) &&& 31).toUInt32).toInt32) &&& (3 : Int32))), (.int (2 : Int32)), (.ref b35), (.ref b35)])) rfl rfl (hb hby at_174)
  refine OGo.by st42 ?_
  have N42 := Fr.snoc X42 N41 g_b35
  have K42 : Keep h0 h42 [] := (K41).wr W42 (Or.inr sz_b35)
  have V42 : Arv Z h42 b35 k35 .int (4 : Int32) [(.int (p3 &&& (3 : Int32))), (.int (((p3.toUInt32 >>> ((2 : Int32) &&& 31).toUInt32).toInt32) &&& (3 : Int32))), (.int (((p3.toUInt32 >>> ((4 : Int32) &&& 31).toUInt32).toInt32) &&& (3 : Int32))), (.int (0 : Int32))] (.int (0 : Int32)) := Arv.set Ar42 q42 S42 M42 Hs42 G42 rfl W42 2 rfl (Nat.le_of_ble_eq_true rfl)
  show OGo p e below _ (T42.setTop (mkF m 175 #[.val (.long ja), .second, .val (.long jb), .second, .val (.int p2), .val (.int p3), .val (.int p4), .val (.ref b1), .val (.ref b7), .val (.ref b11), .val (.ref b18), .val (.ref b26), .val (.int (Int32.ofNat cn1)), .val (.int cpv), .unset, .unset, .unset, .unset, .unset, .unset, .unset, .unset] [(.ref b35)]))
  refine OGo.by (fun _ k => XS.dup X42.here hx rfl (hb hby at_175) rfl rfl k) ?_
  show OGo p e below _ (T42.setTop (mkF m 176 #[.val (.long ja), .second, .val (.long jb), .second, .val (.int p2), .val (.int p3), .val (.int p4), .val (.ref b1), .val (.ref b7), .val (.ref b11), .val (.ref b18), .val (.ref b26), .val (.int (Int32.ofNat cn1)), .val (.int cpv), .unset, .unset, .unset, .unset, .unset, .unset, .unset, .unset] [(.ref b35), (.ref b35)]))
  refine OGo.by (fun _ k => XS.iconst X42.here hx rfl (hb hby at_176) k) ?_
  show OGo p e below _ (T42.setTop (mkF m 177 #[.val (.long ja), .second, .val (.long jb), .second, .val (.int p2), .val (.int p3), .val (.int p4), .val (.ref b1), .val (.ref b7), .val (.ref b11), .val (.ref b18), .val (.ref b26), .val (.int (Int32.ofNat cn1)), .val (.int cpv), .unset, .unset, .unset, .unset, .unset, .unset, .unset, .unset] [(.int (3 : Int32)), (.ref b35), (.ref b35)]))
  refine OGo.by (fun _ k => XS.iload X42.here hx rfl (hb hby at_177) rfl k) ?_
  show OGo p e below _ (T42.setTop (mkF m 179 #[.val (.long ja), .second, .val (.long jb), .second, .val (.int p2), .val (.int p3), .val (.int p4), .val (.ref b1), .val (.ref b7), .val (.ref b11), .val (.ref b18), .val (.ref b26), .val (.int (Int32.ofNat cn1)), .val (.int cpv), .unset, .unset, .unset, .unset, .unset, .unset, .unset, .unset] [(.int p3), (.int (3 : Int32)), (.ref b35), (.ref b35)]))
  refine OGo.by (fun _ k => XS.bipush X42.here hx rfl (hb hby at_179) k) ?_
  show OGo p e below _ (T42.setTop (mkF m 181 #[.val (.long ja), .second, .val (.long jb), .second, .val (.int p2), .val (.int p3), .val (.int p4), .val (.ref b1), .val (.ref b7), .val (.ref b11), .val (.ref b18), .val (.ref b26), .val (.int (Int32.ofNat cn1)), .val (.int cpv), .unset, .unset, .unset, .unset, .unset, .unset, .unset, .unset] [(.int (6 : Int32)), (.int p3), (.int (3 : Int32)), (.ref b35), (.ref b35)]))
  refine OGo.by (fun _ k => XS.iushr X42.here hx rfl (hb hby at_181) rfl k) ?_
  show OGo p e below _ (T42.setTop (mkF m 182 #[.val (.long ja), .second, .val (.long jb), .second, .val (.int p2), .val (.int p3), .val (.int p4), .val (.ref b1), .val (.ref b7), .val (.ref b11), .val (.ref b18), .val (.ref b26), .val (.int (Int32.ofNat cn1)), .val (.int cpv), .unset, .unset, .unset, .unset, .unset, .unset, .unset, .unset] [(.int ((p3.toUInt32 >>> ((6 : Int32) &&& 31).toUInt32).toInt32)), (.int (3 : Int32)), (.ref b35), (.ref b35)]))
  refine OGo.by (fun _ k => XS.iconst X42.here hx rfl (hb hby at_182) k) ?_
  show OGo p e below _ (T42.setTop (mkF m 183 #[.val (.long ja), .second, .val (.long jb), .second, .val (.int p2), .val (.int p3), .val (.int p4), .val (.ref b1), .val (.ref b7), .val (.ref b11), .val (.ref b18), .val (.ref b26), .val (.int (Int32.ofNat cn1)), .val (.int cpv), .unset, .unset, .unset, .unset, .unset, .unset, .unset, .unset] [(.int (3 : Int32)), (.int ((p3.toUInt32 >>> ((6 : Int32) &&& 31).toUInt32).toInt32)), (.int (3 : Int32)), (.ref b35), (.ref b35)]))
  refine OGo.by (fun _ k => XS.iand X42.here hx rfl (hb hby at_183) rfl k) ?_
  show OGo p e below _ (T42.setTop (mkF m 184 #[.val (.long ja), .second, .val (.long jb), .second, .val (.int p2), .val (.int p3), .val (.int p4), .val (.ref b1), .val (.ref b7), .val (.ref b11), .val (.ref b18), .val (.ref b26), .val (.int (Int32.ofNat cn1)), .val (.int cpv), .unset, .unset, .unset, .unset, .unset, .unset, .unset, .unset] [(.int (((p3.toUInt32 >>> ((6 : Int32) &&& 31).toUInt32).toInt32) &&& (3 : Int32))), (.int (3 : Int32)), (.ref b35), (.ref b35)]))
  obtain ⟨cl43, Ar43, q43, S43, M43, Hs43, G43⟩ := id V42
  obtain ⟨T43, h43, X43, e43, W43, st43⟩ := stI X42 hx hZ e42 Ar43 (j := (3 : Int32)) (inb_of S43 ⟨(by decide), (by decide)⟩) (g := (mkF m 184 #[.val (.long ja), .second, .val (.long jb), .second, .val (.int p2), .val (.int p3), .val (.int p4), .val (.ref b1), .val (.ref b7), .val (.ref b11), .val (.ref b18), .val (.ref b26), .val (.int (Int32.ofNat cn1)), .val (.int cpv), .unset, .unset, .unset, .unset, .unset, .unset, .unset, .unset] [(.int (((p3.toUInt32 >>> ((6 : Int32) &&& 31).toUInt32).toInt32) &&& (3 : Int32))), (.int (3 : Int32)), (.ref b35), (.ref b35)])) rfl rfl (hb hby at_184)
  refine OGo.by st43 ?_
  have N43 := Fr.snoc X43 N42 g_b35
  have K43 : Keep h0 h43 [] := (K42).wr W43 (Or.inr sz_b35)
  have V43 : Arv Z h43 b35 k35 .int (4 : Int32) [(.int (p3 &&& (3 : Int32))), (.int (((p3.toUInt32 >>> ((2 : Int32) &&& 31).toUInt32).toInt32) &&& (3 : Int32))), (.int (((p3.toUInt32 >>> ((4 : Int32) &&& 31).toUInt32).toInt32) &&& (3 : Int32))), (.int (((p3.toUInt32 >>> ((6 : Int32) &&& 31).toUInt32).toInt32) &&& (3 : Int32)))] (.int (0 : Int32)) := Arv.set Ar43 q43 S43 M43 Hs43 G43 rfl W43 3 rfl (Nat.le_of_ble_eq_true rfl)
  show OGo p e below _ (T43.setTop (mkF m 185 #[.val (.long ja), .second, .val (.long jb), .second, .val (.int p2), .val (.int p3), .val (.int p4), .val (.ref b1), .val (.ref b7), .val (.ref b11), .val (.ref b18), .val (.ref b26), .val (.int (Int32.ofNat cn1)), .val (.int cpv), .unset, .unset, .unset, .unset, .unset, .unset, .unset, .unset] [(.ref b35)]))
  obtain ⟨lv2, hlv2⟩ : ∃ z : List Int32, z = [(p3 &&& (3 : Int32)), (((p3.toUInt32 >>> ((2 : Int32) &&& 31).toUInt32).toInt32) &&& (3 : Int32)), (((p3.toUInt32 >>> ((4 : Int32) &&& 31).toUInt32).toInt32) &&& (3 : Int32)), (((p3.toUInt32 >>> ((6 : Int32) &&& 31).toUInt32).toInt32) &&& (3 : Int32))] := ⟨_, rfl⟩
  have VS44 : Arv Z h43 b35 k35 .int (4 : Int32) (lv2.map Value.int) (.int (0 : Int32)) := by rw [hlv2]; exact V43
  have hV_lv2 : own_V lv2 := by rw [hlv2]; exact own_Vof
  refine OGo.by (fun _ k => XS.astore X43.here hx rfl (hb hby at_185) rfl rfl (l' := #[.val (.long ja), .second, .val (.long jb), .second, .val (.int p2), .val (.int p3), .val (.int p4), .val (.ref b1), .val (.ref b7), .val (.ref b11), .val (.ref b18), .val (.ref b26), .val (.int (Int32.ofNat cn1)), .val (.int cpv), .val (.ref b35), .unset, .unset, .unset, .unset, .unset, .unset, .unset]) rfl k) ?_
  show OGo p e below _ (T43.setTop (mkF m 187 #[.val (.long ja), .second, .val (.long jb), .second, .val (.int p2), .val (.int p3), .val (.int p4), .val (.ref b1), .val (.ref b7), .val (.ref b11), .val (.ref b18), .val (.ref b26), .val (.int (Int32.ofNat cn1)), .val (.int cpv), .val (.ref b35), .unset, .unset, .unset, .unset, .unset, .unset, .unset] []))
  refine OGo.by (fun _ k => XS.iload X43.here hx rfl (hb hby at_187) rfl k) ?_
  show OGo p e below _ (T43.setTop (mkF m 189 #[.val (.long ja), .second, .val (.long jb), .second, .val (.int p2), .val (.int p3), .val (.int p4), .val (.ref b1), .val (.ref b7), .val (.ref b11), .val (.ref b18), .val (.ref b26), .val (.int (Int32.ofNat cn1)), .val (.int cpv), .val (.ref b35), .unset, .unset, .unset, .unset, .unset, .unset, .unset] [(.int p3)]))
  refine OGo.by (fun _ k => XS.bipush X43.here hx rfl (hb hby at_189) k) ?_
  show OGo p e below _ (T43.setTop (mkF m 191 #[.val (.long ja), .second, .val (.long jb), .second, .val (.int p2), .val (.int p3), .val (.int p4), .val (.ref b1), .val (.ref b7), .val (.ref b11), .val (.ref b18), .val (.ref b26), .val (.int (Int32.ofNat cn1)), .val (.int cpv), .val (.ref b35), .unset, .unset, .unset, .unset, .unset, .unset, .unset] [(.int (8 : Int32)), (.int p3)]))
  refine OGo.by (fun _ k => XS.iushr X43.here hx rfl (hb hby at_191) rfl k) ?_
  show OGo p e below _ (T43.setTop (mkF m 192 #[.val (.long ja), .second, .val (.long jb), .second, .val (.int p2), .val (.int p3), .val (.int p4), .val (.ref b1), .val (.ref b7), .val (.ref b11), .val (.ref b18), .val (.ref b26), .val (.int (Int32.ofNat cn1)), .val (.int cpv), .val (.ref b35), .unset, .unset, .unset, .unset, .unset, .unset, .unset] [(.int ((p3.toUInt32 >>> ((8 : Int32) &&& 31).toUInt32).toInt32))]))
  refine OGo.by (fun _ k => XS.bipush X43.here hx rfl (hb hby at_192) k) ?_
  show OGo p e below _ (T43.setTop (mkF m 194 #[.val (.long ja), .second, .val (.long jb), .second, .val (.int p2), .val (.int p3), .val (.int p4), .val (.ref b1), .val (.ref b7), .val (.ref b11), .val (.ref b18), .val (.ref b26), .val (.int (Int32.ofNat cn1)), .val (.int cpv), .val (.ref b35), .unset, .unset, .unset, .unset, .unset, .unset, .unset] [(.int (7 : Int32)), (.int ((p3.toUInt32 >>> ((8 : Int32) &&& 31).toUInt32).toInt32))]))
  refine OGo.by (fun _ k => XS.iand X43.here hx rfl (hb hby at_194) rfl k) ?_
  show OGo p e below _ (T43.setTop (mkF m 195 #[.val (.long ja), .second, .val (.long jb), .second, .val (.int p2), .val (.int p3), .val (.int p4), .val (.ref b1), .val (.ref b7), .val (.ref b11), .val (.ref b18), .val (.ref b26), .val (.int (Int32.ofNat cn1)), .val (.int cpv), .val (.ref b35), .unset, .unset, .unset, .unset, .unset, .unset, .unset] [(.int (((p3.toUInt32 >>> ((8 : Int32) &&& 31).toUInt32).toInt32) &&& (7 : Int32)))]))
  refine OGo.by (fun _ k => XS.iconst X43.here hx rfl (hb hby at_195) k) ?_
  show OGo p e below _ (T43.setTop (mkF m 196 #[.val (.long ja), .second, .val (.long jb), .second, .val (.int p2), .val (.int p3), .val (.int p4), .val (.ref b1), .val (.ref b7), .val (.ref b11), .val (.ref b18), .val (.ref b26), .val (.int (Int32.ofNat cn1)), .val (.int cpv), .val (.ref b35), .unset, .unset, .unset, .unset, .unset, .unset, .unset] [(.int (5 : Int32)), (.int (((p3.toUInt32 >>> ((8 : Int32) &&& 31).toUInt32).toInt32) &&& (7 : Int32)))]))
  refine OGo.by (fun _ k => iremM X43 hx rfl (hb hby at_196) rfl (by decide) k) ?_
  show OGo p e below _ (T43.setTop (mkF m 197 #[.val (.long ja), .second, .val (.long jb), .second, .val (.int p2), .val (.int p3), .val (.int p4), .val (.ref b1), .val (.ref b7), .val (.ref b11), .val (.ref b18), .val (.ref b26), .val (.int (Int32.ofNat cn1)), .val (.int cpv), .val (.ref b35), .unset, .unset, .unset, .unset, .unset, .unset, .unset] [(.int ((((p3.toUInt32 >>> ((8 : Int32) &&& 31).toUInt32).toInt32) &&& (7 : Int32)) % (5 : Int32)))]))
  obtain ⟨cn2, hle_cn2, he_cn2⟩ := own_and7 ((p3.toUInt32 >>> ((8 : Int32) &&& 31).toUInt32).toInt32)
  rw [he_cn2]
  show OGo p e below _ (T43.setTop (mkF m 197 #[.val (.long ja), .second, .val (.long jb), .second, .val (.int p2), .val (.int p3), .val (.int p4), .val (.ref b1), .val (.ref b7), .val (.ref b11), .val (.ref b18), .val (.ref b26), .val (.int (Int32.ofNat cn1)), .val (.int cpv), .val (.ref b35), .unset, .unset, .unset, .unset, .unset, .unset, .unset] [(.int (Int32.ofNat cn2))]))
  refine OGo.by (fun _ k => XS.istore X43.here hx rfl (hb hby at_197) rfl (l' := #[.val (.long ja), .second, .val (.long jb), .second, .val (.int p2), .val (.int p3), .val (.int p4), .val (.ref b1), .val (.ref b7), .val (.ref b11), .val (.ref b18), .val (.ref b26), .val (.int (Int32.ofNat cn1)), .val (.int cpv), .val (.ref b35), .val (.int (Int32.ofNat cn2)), .unset, .unset, .unset, .unset, .unset, .unset]) rfl k) ?_
  show OGo p e below _ (T43.setTop (mkF m 199 #[.val (.long ja), .second, .val (.long jb), .second, .val (.int p2), .val (.int p3), .val (.int p4), .val (.ref b1), .val (.ref b7), .val (.ref b11), .val (.ref b18), .val (.ref b26), .val (.int (Int32.ofNat cn1)), .val (.int cpv), .val (.ref b35), .val (.int (Int32.ofNat cn2)), .unset, .unset, .unset, .unset, .unset, .unset] []))
  obtain ⟨T45, h45, X45, e45, E45, A45, D45, U45, st45⟩ := newO X43 hx hZ hown (hw _ (List.mem_of_getElem? (i := 4) rfl)) (hw _ (List.mem_of_getElem? (i := 5) rfl)) (hw _ (List.mem_of_getElem? (i := 6) rfl)) e43 (g := (mkF m 199 #[.val (.long ja), .second, .val (.long jb), .second, .val (.int p2), .val (.int p3), .val (.int p4), .val (.ref b1), .val (.ref b7), .val (.ref b11), .val (.ref b18), .val (.ref b26), .val (.int (Int32.ofNat cn1)), .val (.int cpv), .val (.ref b35), .val (.int (Int32.ofNat cn2)), .unset, .unset, .unset, .unset, .unset, .unset] [])) rfl (hb hby at_199) (by decide) (by decide)
  obtain ⟨b45, g45⟩ : ∃ z, z = h43.size := ⟨_, rfl⟩
  rw [← g45] at A45 D45 U45 st45
  have f46 : Exa Z h43 b1 "[I" := (((((f36.ext E35).wr W40).wr W41).wr W42).wr W43)
  have ne_b1_b45 : b1 ≠ b45 := Nat.ne_of_lt (Nat.lt_of_lt_of_le f46.lt (Nat.le_of_eq g45.symm))
  have f47 : Arv Z h43 b7 k7 (.array .int) (1 : Int32) [(.ref b1)] .null := (((((f37.ext E35).other W40 ne_b7_b35).other W41 ne_b7_b35).other W42 ne_b7_b35).other W43 ne_b7_b35)
  have ne_b7_b45 : b7 ≠ b45 := Nat.ne_of_lt (Nat.lt_of_lt_of_le f47.lt (Nat.le_of_eq g45.symm))
  have f48 : Arv Z h43 b11 k11 .int (4 : Int32) (own_U.map Value.int) (.int (0 : Int32)) := (((((f38.ext E35).other W40 ne_b11_b35).other W41 ne_b11_b35).other W42 ne_b11_b35).other W43 ne_b11_b35)
  have ne_b11_b45 : b11 ≠ b45 := Nat.ne_of_lt (Nat.lt_of_lt_of_le f48.lt (Nat.le_of_eq g45.symm))
  have f49 : Arv Z h43 b18 k18 .int (4 : Int32) (own_U.map Value.int) (.int (0 : Int32)) := (((((f39.ext E35).other W40 ne_b18_b35).other W41 ne_b18_b35).other W42 ne_b18_b35).other W43 ne_b18_b35)
  have ne_b18_b45 : b18 ≠ b45 := Nat.ne_of_lt (Nat.lt_of_lt_of_le f49.lt (Nat.le_of_eq g45.symm))
  have f50 : Arv Z h43 b26 k26 .int (4 : Int32) (lv1.map Value.int) (.int (0 : Int32)) := (((((VS34.ext E35).other W40 ne_b26_b35).other W41 ne_b26_b35).other W42 ne_b26_b35).other W43 ne_b26_b35)
  have ne_b26_b45 : b26 ≠ b45 := Nat.ne_of_lt (Nat.lt_of_lt_of_le f50.lt (Nat.le_of_eq g45.symm))
  have ne_b35_b45 : b35 ≠ b45 := Nat.ne_of_lt (Nat.lt_of_lt_of_le VS44.lt (Nat.le_of_eq g45.symm))
  have g_b45 : n0 ≤ b45 := Nat.le_trans (Nat.le_trans Z0 K43.1) (Nat.le_of_eq g45.symm)
  have sz_b45 : h0.size ≤ b45 := Nat.le_trans K43.1 (Nat.le_of_eq g45.symm)
  refine OGo.by st45 ?_
  have K45 : Keep h0 h45 [] := (K43).ext E45
  have F45_mFirst : Fld Z h45 b45 "com/example/faces_into_crowds/facesintocrowds/Buckets" "mFirst" "[I" .null := D45 (Or.inr (hw _ (List.mem_of_getElem? (i := 28) rfl))) (ty := (.array .int)) (by decide)
  have F45_mNext : Fld Z h45 b45 "com/example/faces_into_crowds/facesintocrowds/Buckets" "mNext" "[I" .null := D45 (Or.inr (hw _ (List.mem_of_getElem? (i := 34) rfl))) (ty := (.array .int)) (by decide)
  have F45_mSlots : Fld Z h45 b45 "com/example/faces_into_crowds/facesintocrowds/Buckets" "mSlots" "[I" .null := D45 (Or.inr (hw _ (List.mem_of_getElem? (i := 36) rfl))) (ty := (.array .int)) (by decide)
  have F45_mShift : Fld Z h45 b45 "com/example/faces_into_crowds/facesintocrowds/Buckets" "mShift" "I" (.int (0 : Int32)) := D45 (Or.inr (hw _ (List.mem_of_getElem? (i := 38) rfl))) (ty := .int) (by decide)
  have F45_mBuckets : Fld Z h45 b45 "com/example/faces_into_crowds/facesintocrowds/Buckets" "mBuckets" "I" (.int (0 : Int32)) := D45 (Or.inl (hw _ (List.mem_of_getElem? (i := 45) rfl))) (ty := .int) (by decide)
  have F45_mUnits : Fld Z h45 b45 "com/example/faces_into_crowds/facesintocrowds/Buckets" "mUnits" "[I" .null := D45 (Or.inl (hw _ (List.mem_of_getElem? (i := 47) rfl))) (ty := (.array .int)) (by decide)
  show OGo p e below _ (T45.setTop (mkF m 202 #[.val (.long ja), .second, .val (.long jb), .second, .val (.int p2), .val (.int p3), .val (.int p4), .val (.ref b1), .val (.ref b7), .val (.ref b11), .val (.ref b18), .val (.ref b26), .val (.int (Int32.ofNat cn1)), .val (.int cpv), .val (.ref b35), .val (.int (Int32.ofNat cn2)), .unset, .unset, .unset, .unset, .unset, .unset] [(.ref b45)]))
  refine OGo.by (fun _ k => XS.dup X45.here hx rfl (hb hby at_202) rfl rfl k) ?_
  show OGo p e below _ (T45.setTop (mkF m 203 #[.val (.long ja), .second, .val (.long jb), .second, .val (.int p2), .val (.int p3), .val (.int p4), .val (.ref b1), .val (.ref b7), .val (.ref b11), .val (.ref b18), .val (.ref b26), .val (.int (Int32.ofNat cn1)), .val (.int cpv), .val (.ref b35), .val (.int (Int32.ofNat cn2)), .unset, .unset, .unset, .unset, .unset, .unset] [(.ref b45), (.ref b45)]))
  refine OGo.by (fun _ k => XS.iload X45.here hx rfl (hb hby at_203) rfl k) ?_
  show OGo p e below _ (T45.setTop (mkF m 205 #[.val (.long ja), .second, .val (.long jb), .second, .val (.int p2), .val (.int p3), .val (.int p4), .val (.ref b1), .val (.ref b7), .val (.ref b11), .val (.ref b18), .val (.ref b26), .val (.int (Int32.ofNat cn1)), .val (.int cpv), .val (.ref b35), .val (.int (Int32.ofNat cn2)), .unset, .unset, .unset, .unset, .unset, .unset] [(.int cpv), (.ref b45), (.ref b45)]))
  have H51 := X45.specialBack hx (y := (⟨"com/example/faces_into_crowds/facesintocrowds/Buckets", "<init>", "(I)V"⟩ : MethodName)) rfl hown (mvT hZ (hw _ (List.mem_of_getElem? (i := 7) rfl))) (mvT hZ (hw _ (List.mem_of_getElem? (i := 8) rfl))) (mvT hZ (hw _ (List.mem_of_getElem? (i := 9) rfl))) (by decide) (backOf (W := 1) (rm_in l Z av0 hw [] b45 cpv h45 n0 (Nat.le_trans Z0 K45.1) A45 F45_mFirst F45_mNext F45_mSlots F45_mUnits F45_mShift F45_mBuckets g_b45 hcp) hZ (hw _ (List.mem_of_getElem? (i := 9) rfl)) (hw _ (List.mem_of_getElem? (i := 6) rfl)) (by decide) (by decide)) (g := (mkF m 205 #[.val (.long ja), .second, .val (.long jb), .second, .val (.int p2), .val (.int p3), .val (.int p4), .val (.ref b1), .val (.ref b7), .val (.ref b11), .val (.ref b18), .val (.ref b26), .val (.int (Int32.ofNat cn1)), .val (.int cpv), .val (.ref b35), .val (.int (Int32.ofNat cn2)), .unset, .unset, .unset, .unset, .unset, .unset] [(.int cpv), (.ref b45), (.ref b45)])) rfl (by rw [hml]; rfl) (Steps.refl _) (a := b45) (argsL := [(.int cpv)]) (rest := [(.ref b45)]) (lenOf own_pd6 rfl) rfl (by show 2 * 0 + _ ≤ _; exact Nat.le_of_eq rfl) (hb hby at_205) (fun _ _ => ⟨rfl, e45, (by decide : 7 + 3 ≤ _), (by decide : 27 + 30 ≤ _)⟩)
  refine own_cpsS (own_cpsOf H51) (c' := 10) (s' := 57) rfl rfl N43 ?_
  clear H51
  intro v51 T51 L51 L51' hQ51 N51f X51
  obtain ⟨zf_51, zn_51, zs_51, kf_51, kx_51, ks_51, mm_51, cc_51, ml_51, sh_51, rfl, N51q, Kc51, G51_0, G51_1, G51_2, G51_3, G51_4, G51_5, G51_6, G51_7, G51_8, G51_9, G51_10, G51_11, G51_12, G51_13, G51_14, G51_15, G51_16⟩ := hQ51
  have N51 := N51f N51q
  have f52 : Exa Z h45 b1 "[I" := (f46.ext E45)
  have ne_b1_zf_51 : b1 ≠ zf_51 := Nat.ne_of_lt (Nat.lt_of_lt_of_le f52.lt G51_0)
  have f53 : Arv Z h45 b7 k7 (.array .int) (1 : Int32) [(.ref b1)] .null := (f47.ext E45)
  have ne_b7_zf_51 : b7 ≠ zf_51 := Nat.ne_of_lt (Nat.lt_of_lt_of_le f53.lt G51_0)
  have f54 : Arv Z h45 b11 k11 .int (4 : Int32) (own_U.map Value.int) (.int (0 : Int32)) := (f48.ext E45)
  have ne_b11_zf_51 : b11 ≠ zf_51 := Nat.ne_of_lt (Nat.lt_of_lt_of_le f54.lt G51_0)
  have f55 : Arv Z h45 b18 k18 .int (4 : Int32) (own_U.map Value.int) (.int (0 : Int32)) := (f49.ext E45)
  have ne_b18_zf_51 : b18 ≠ zf_51 := Nat.ne_of_lt (Nat.lt_of_lt_of_le f55.lt G51_0)
  have f56 : Arv Z h45 b26 k26 .int (4 : Int32) (lv1.map Value.int) (.int (0 : Int32)) := (f50.ext E45)
  have ne_b26_zf_51 : b26 ≠ zf_51 := Nat.ne_of_lt (Nat.lt_of_lt_of_le f56.lt G51_0)
  have f57 : Arv Z h45 b35 k35 .int (4 : Int32) (lv2.map Value.int) (.int (0 : Int32)) := (VS44.ext E45)
  have ne_b35_zf_51 : b35 ≠ zf_51 := Nat.ne_of_lt (Nat.lt_of_lt_of_le f57.lt G51_0)
  have ne_b45_zf_51 : b45 ≠ zf_51 := Nat.ne_of_lt (Nat.lt_of_lt_of_le A45.lt G51_0)
  have g_zf_51 : n0 ≤ zf_51 := Nat.le_trans (Nat.le_trans Z0 K45.1) G51_0
  have sz_zf_51 : h0.size ≤ zf_51 := Nat.le_trans K45.1 G51_0
  have ne_b1_zn_51 : b1 ≠ zn_51 := Nat.ne_of_lt (Nat.lt_of_lt_of_le f52.lt G51_1)
  have ne_b7_zn_51 : b7 ≠ zn_51 := Nat.ne_of_lt (Nat.lt_of_lt_of_le f53.lt G51_1)
  have ne_b11_zn_51 : b11 ≠ zn_51 := Nat.ne_of_lt (Nat.lt_of_lt_of_le f54.lt G51_1)
  have ne_b18_zn_51 : b18 ≠ zn_51 := Nat.ne_of_lt (Nat.lt_of_lt_of_le f55.lt G51_1)
  have ne_b26_zn_51 : b26 ≠ zn_51 := Nat.ne_of_lt (Nat.lt_of_lt_of_le f56.lt G51_1)
  have ne_b35_zn_51 : b35 ≠ zn_51 := Nat.ne_of_lt (Nat.lt_of_lt_of_le f57.lt G51_1)
  have ne_b45_zn_51 : b45 ≠ zn_51 := Nat.ne_of_lt (Nat.lt_of_lt_of_le A45.lt G51_1)
  have g_zn_51 : n0 ≤ zn_51 := Nat.le_trans (Nat.le_trans Z0 K45.1) G51_1
  have sz_zn_51 : h0.size ≤ zn_51 := Nat.le_trans K45.1 G51_1
  have ne_b1_zs_51 : b1 ≠ zs_51 := Nat.ne_of_lt (Nat.lt_of_lt_of_le f52.lt G51_2)
  have ne_b7_zs_51 : b7 ≠ zs_51 := Nat.ne_of_lt (Nat.lt_of_lt_of_le f53.lt G51_2)
  have ne_b11_zs_51 : b11 ≠ zs_51 := Nat.ne_of_lt (Nat.lt_of_lt_of_le f54.lt G51_2)
  have ne_b18_zs_51 : b18 ≠ zs_51 := Nat.ne_of_lt (Nat.lt_of_lt_of_le f55.lt G51_2)
  have ne_b26_zs_51 : b26 ≠ zs_51 := Nat.ne_of_lt (Nat.lt_of_lt_of_le f56.lt G51_2)
  have ne_b35_zs_51 : b35 ≠ zs_51 := Nat.ne_of_lt (Nat.lt_of_lt_of_le f57.lt G51_2)
  have ne_b45_zs_51 : b45 ≠ zs_51 := Nat.ne_of_lt (Nat.lt_of_lt_of_le A45.lt G51_2)
  have g_zs_51 : n0 ≤ zs_51 := Nat.le_trans (Nat.le_trans Z0 K45.1) G51_2
  have sz_zs_51 : h0.size ≤ zs_51 := Nat.le_trans K45.1 G51_2
  obtain ⟨h51, e51⟩ : ∃ z, T51.heap = z := ⟨_, rfl⟩
  rw [e51] at Kc51 G51_7 G51_8 G51_9 G51_10 G51_11 G51_12 G51_13 G51_14 G51_15 G51_16
  have K51 : Keep h0 h51 [] := (K45).trans Kc51 (allS (P := fun x => x ∈ ([] : List Addr) ∨ h0.size ≤ x) (Or.inr sz_b45) (all0 (P := fun x => x ∈ ([] : List Addr) ∨ h0.size ≤ x)))
  show OGo p e below _ (T51.setTop (mkF m 208 #[.val (.long ja), .second, .val (.long jb), .second, .val (.int p2), .val (.int p3), .val (.int p4), .val (.ref b1), .val (.ref b7), .val (.ref b11), .val (.ref b18), .val (.ref b26), .val (.int (Int32.ofNat cn1)), .val (.int cpv), .val (.ref b35), .val (.int (Int32.ofNat cn2)), .unset, .unset, .unset, .unset, .unset, .unset] [(.ref b45)]))
  have hcf := G51_6
  refine OGo.by (fun _ k => XS.astore X51.here hx rfl (hb hby at_208) rfl rfl (l' := #[.val (.long ja), .second, .val (.long jb), .second, .val (.int p2), .val (.int p3), .val (.int p4), .val (.ref b1), .val (.ref b7), .val (.ref b11), .val (.ref b18), .val (.ref b26), .val (.int (Int32.ofNat cn1)), .val (.int cpv), .val (.ref b35), .val (.int (Int32.ofNat cn2)), .val (.ref b45), .unset, .unset, .unset, .unset, .unset]) rfl k) ?_
  show OGo p e below _ (T51.setTop (mkF m 210 #[.val (.long ja), .second, .val (.long jb), .second, .val (.int p2), .val (.int p3), .val (.int p4), .val (.ref b1), .val (.ref b7), .val (.ref b11), .val (.ref b18), .val (.ref b26), .val (.int (Int32.ofNat cn1)), .val (.int cpv), .val (.ref b35), .val (.int (Int32.ofNat cn2)), .val (.ref b45), .unset, .unset, .unset, .unset, .unset] []))
  refine OGo.by (fun _ k => XS.aload X51.here hx rfl (hb hby at_210) rfl rfl k) ?_
  show OGo p e below _ (T51.setTop (mkF m 212 #[.val (.long ja), .second, .val (.long jb), .second, .val (.int p2), .val (.int p3), .val (.int p4), .val (.ref b1), .val (.ref b7), .val (.ref b11), .val (.ref b18), .val (.ref b26), .val (.int (Int32.ofNat cn1)), .val (.int cpv), .val (.ref b35), .val (.int (Int32.ofNat cn2)), .val (.ref b45), .unset, .unset, .unset, .unset, .unset] [(.ref b45)]))
  refine OGo.by (fun _ k => XS.aload X51.here hx rfl (hb hby at_212) rfl rfl k) ?_
  show OGo p e below _ (T51.setTop (mkF m 214 #[.val (.long ja), .second, .val (.long jb), .second, .val (.int p2), .val (.int p3), .val (.int p4), .val (.ref b1), .val (.ref b7), .val (.ref b11), .val (.ref b18), .val (.ref b26), .val (.int (Int32.ofNat cn1)), .val (.int cpv), .val (.ref b35), .val (.int (Int32.ofNat cn2)), .val (.ref b45), .unset, .unset, .unset, .unset, .unset] [(.ref b11), (.ref b45)]))
  refine OGo.by (fun _ k => XS.iload X51.here hx rfl (hb hby at_214) rfl k) ?_
  show OGo p e below _ (T51.setTop (mkF m 216 #[.val (.long ja), .second, .val (.long jb), .second, .val (.int p2), .val (.int p3), .val (.int p4), .val (.ref b1), .val (.ref b7), .val (.ref b11), .val (.ref b18), .val (.ref b26), .val (.int (Int32.ofNat cn1)), .val (.int cpv), .val (.ref b35), .val (.int (Int32.ofNat cn2)), .val (.ref b45), .unset, .unset, .unset, .unset, .unset] [(.int (Int32.ofNat cn1)), (.ref b11), (.ref b45)]))
  refine OGo.by (fun _ k => XS.aload X51.here hx rfl (hb hby at_216) rfl rfl k) ?_
  show OGo p e below _ (T51.setTop (mkF m 218 #[.val (.long ja), .second, .val (.long jb), .second, .val (.int p2), .val (.int p3), .val (.int p4), .val (.ref b1), .val (.ref b7), .val (.ref b11), .val (.ref b18), .val (.ref b26), .val (.int (Int32.ofNat cn1)), .val (.int cpv), .val (.ref b35), .val (.int (Int32.ofNat cn2)), .val (.ref b45), .unset, .unset, .unset, .unset, .unset] [(.ref b26), (.int (Int32.ofNat cn1)), (.ref b11), (.ref b45)]))
  refine OGo.by (fun _ k => XS.aload X51.here hx rfl (hb hby at_218) rfl rfl k) ?_
  show OGo p e below _ (T51.setTop (mkF m 220 #[.val (.long ja), .second, .val (.long jb), .second, .val (.int p2), .val (.int p3), .val (.int p4), .val (.ref b1), .val (.ref b7), .val (.ref b11), .val (.ref b18), .val (.ref b26), .val (.int (Int32.ofNat cn1)), .val (.int cpv), .val (.ref b35), .val (.int (Int32.ofNat cn2)), .val (.ref b45), .unset, .unset, .unset, .unset, .unset] [(.ref b7), (.ref b26), (.int (Int32.ofNat cn1)), (.ref b11), (.ref b45)]))
  have f59 : Arv Z h51 b11 k11 .int (4 : Int32) (own_U.map Value.int) (.int (0 : Int32)) := (f54.keep Kc51 (ninS ne_b11_b45 nin0))
  have f60 : Arv Z h51 b26 k26 .int (4 : Int32) (lv1.map Value.int) (.int (0 : Int32)) := (f56.keep Kc51 (ninS ne_b26_b45 nin0))
  have f61 : Arv Z h51 b1 k1 .int (4 : Int32) (lr.map Value.int) (.int (0 : Int32)) := ((((((((((((((((((((((((VS6.ext E7).other W9 ne_b1_b7).ext E11).other W13 ne_b1_b11).other W14 ne_b1_b11).other W15 ne_b1_b11).other W16 ne_b1_b11).ext E18).other W21 ne_b1_b18).other W22 ne_b1_b18).other W23 ne_b1_b18).other W24 ne_b1_b18).ext E26).other W30 ne_b1_b26).other W31 ne_b1_b26).other W32 ne_b1_b26).other W33 ne_b1_b26).ext E35).other W40 ne_b1_b35).other W41 ne_b1_b35).other W42 ne_b1_b35).other W43 ne_b1_b35).ext E45).keep Kc51 (ninS ne_b1_b45 nin0))
  have f62 : Arv Z h51 b7 k7 (.array .int) (1 : Int32) [(.ref b1)] .null := (f53.keep Kc51 (ninS ne_b7_b45 nin0))
  obtain ⟨cq58, kq58, q58a, q58b, q58c⟩ := isOf hZ e51 G51_7
  have H58 := X51.virtualBack hx (y := (⟨"com/example/faces_into_crowds/facesintocrowds/Buckets", "sort", "([II[I[[I)V"⟩ : MethodName)) (z := (⟨"com/example/faces_into_crowds/facesintocrowds/Buckets", "sort", "([II[I[[I)V"⟩ : MethodName)) hown (mvT hZ (hw _ (List.mem_of_getElem? (i := 39) rfl))) (mvT hZ (hw _ (List.mem_of_getElem? (i := 40) rfl))) (notFace_of_selects (args := #[]) (mvT hZ (hw _ (List.mem_of_getElem? (i := 42) rfl)))) (mvT hZ (hw _ (List.mem_of_getElem? (i := 42) rfl))) (mvT hZ (hw _ (List.mem_of_getElem? (i := 41) rfl))) (by decide) (backOf (W := 0) (rm_so l Z av0 hw [] b45 b11 b26 b7 cn1 mm_51 cc_51 0 ml_51 sh_51 cpv .null zf_51 zs_51 zn_51 b1 k11 k26 k1 k7 kf_51 ks_51 kx_51 lv1 lr (List.replicate mm_51 (-1 : Int32)) (List.replicate cc_51 (0 : Int32)) (List.replicate cc_51 (0 : Int32)) h51 n0 (Nat.le_trans Z0 K51.1) G51_7 G51_8 G51_10 G51_9 G51_12 G51_13 G51_11 f59 f60 f61 f62 G51_14 G51_16 G51_15 ne_b45_zf_51 ne_b45_zs_51 ne_b45_zn_51 (Ne.symm ne_b11_b45) (Ne.symm ne_b26_b45) (Ne.symm ne_b7_b45) (Ne.symm ne_b1_b45) G51_4 G51_3 (Ne.symm ne_b11_zf_51) (Ne.symm ne_b26_zf_51) (Ne.symm ne_b7_zf_51) (Ne.symm ne_b1_zf_51) (Ne.symm G51_5) (Ne.symm ne_b11_zs_51) (Ne.symm ne_b26_zs_51) (Ne.symm ne_b7_zs_51) (Ne.symm ne_b1_zs_51) (Ne.symm ne_b11_zn_51) (Ne.symm ne_b26_zn_51) (Ne.symm ne_b7_zn_51) (Ne.symm ne_b1_zn_51) g_b45 g_zf_51 g_zs_51 g_zn_51 hcf own_Old_start List.length_replicate hV_lv1 hl_lr hle_cn1) hZ (hw _ (List.mem_of_getElem? (i := 43) rfl)) (hw _ (List.mem_of_getElem? (i := 6) rfl)) (by decide) (by decide)) q58a q58c (g := (mkF m 220 #[.val (.long ja), .second, .val (.long jb), .second, .val (.int p2), .val (.int p3), .val (.int p4), .val (.ref b1), .val (.ref b7), .val (.ref b11), .val (.ref b18), .val (.ref b26), .val (.int (Int32.ofNat cn1)), .val (.int cpv), .val (.ref b35), .val (.int (Int32.ofNat cn2)), .val (.ref b45), .unset, .unset, .unset, .unset, .unset] [(.ref b7), (.ref b26), (.int (Int32.ofNat cn1)), (.ref b11), (.ref b45)])) rfl (by rw [hml]; rfl) (Steps.refl _) (argsL := [(.ref b11), (.int (Int32.ofNat cn1)), (.ref b26), (.ref b7)]) (rest := []) (lenOf own_pd7 rfl) rfl (by show 2 * 0 + _ ≤ _; exact Nat.le_of_eq rfl) (hb hby at_220) (fun _ _ => ⟨rfl, e51, (by decide : 10 + 0 ≤ _), (by decide : 57 + 0 ≤ _)⟩)
  refine own_cpsS (own_cpsOf H58) (c' := 10) (s' := 57) rfl rfl N51 ?_
  clear H58
  intro v58 T58 L58 L58' hQ58 N58f X58
  obtain ⟨mF_58, mS_58, mX_58, mb_58, rfl, N58q, Kc58, G58_0, G58_1, G58_2, G58_3, G58_4, G58_5, G58_6, G58_7, G58_8, G58_9, G58_10, G58_11⟩ := hQ58
  have N58 := N58f N58q
  obtain ⟨h58, e58⟩ : ∃ z, T58.heap = z := ⟨_, rfl⟩
  rw [e58] at Kc58 G58_2 G58_3 G58_4 G58_5 G58_6 G58_7 G58_8 G58_9 G58_10 G58_11
  have K58 : Keep h0 h58 [] := (K51).trans Kc58 (allS (P := fun x => x ∈ ([] : List Addr) ∨ h0.size ≤ x) (Or.inr sz_b45) (allS (P := fun x => x ∈ ([] : List Addr) ∨ h0.size ≤ x) (Or.inr sz_zf_51) (allS (P := fun x => x ∈ ([] : List Addr) ∨ h0.size ≤ x) (Or.inr sz_zs_51) (allS (P := fun x => x ∈ ([] : List Addr) ∨ h0.size ≤ x) (Or.inr sz_zn_51) (all0 (P := fun x => x ∈ ([] : List Addr) ∨ h0.size ≤ x))))))
  show OGo p e below _ (T58.setTop (mkF m 223 #[.val (.long ja), .second, .val (.long jb), .second, .val (.int p2), .val (.int p3), .val (.int p4), .val (.ref b1), .val (.ref b7), .val (.ref b11), .val (.ref b18), .val (.ref b26), .val (.int (Int32.ofNat cn1)), .val (.int cpv), .val (.ref b35), .val (.int (Int32.ofNat cn2)), .val (.ref b45), .unset, .unset, .unset, .unset, .unset] []))
  refine OGo.by (fun _ k => XS.aload X58.here hx rfl (hb hby at_223) rfl rfl k) ?_
  show OGo p e below _ (T58.setTop (mkF m 225 #[.val (.long ja), .second, .val (.long jb), .second, .val (.int p2), .val (.int p3), .val (.int p4), .val (.ref b1), .val (.ref b7), .val (.ref b11), .val (.ref b18), .val (.ref b26), .val (.int (Int32.ofNat cn1)), .val (.int cpv), .val (.ref b35), .val (.int (Int32.ofNat cn2)), .val (.ref b45), .unset, .unset, .unset, .unset, .unset] [(.ref b45)]))
  refine OGo.by (fun _ k => XS.aload X58.here hx rfl (hb hby at_225) rfl rfl k) ?_
  show OGo p e below _ (T58.setTop (mkF m 227 #[.val (.long ja), .second, .val (.long jb), .second, .val (.int p2), .val (.int p3), .val (.int p4), .val (.ref b1), .val (.ref b7), .val (.ref b11), .val (.ref b18), .val (.ref b26), .val (.int (Int32.ofNat cn1)), .val (.int cpv), .val (.ref b35), .val (.int (Int32.ofNat cn2)), .val (.ref b45), .unset, .unset, .unset, .unset, .unset] [(.ref b18), (.ref b45)]))
  refine OGo.by (fun _ k => XS.iload X58.here hx rfl (hb hby at_227) rfl k) ?_
  show OGo p e below _ (T58.setTop (mkF m 229 #[.val (.long ja), .second, .val (.long jb), .second, .val (.int p2), .val (.int p3), .val (.int p4), .val (.ref b1), .val (.ref b7), .val (.ref b11), .val (.ref b18), .val (.ref b26), .val (.int (Int32.ofNat cn1)), .val (.int cpv), .val (.ref b35), .val (.int (Int32.ofNat cn2)), .val (.ref b45), .unset, .unset, .unset, .unset, .unset] [(.int (Int32.ofNat cn2)), (.ref b18), (.ref b45)]))
  refine OGo.by (fun _ k => XS.aload X58.here hx rfl (hb hby at_229) rfl rfl k) ?_
  show OGo p e below _ (T58.setTop (mkF m 231 #[.val (.long ja), .second, .val (.long jb), .second, .val (.int p2), .val (.int p3), .val (.int p4), .val (.ref b1), .val (.ref b7), .val (.ref b11), .val (.ref b18), .val (.ref b26), .val (.int (Int32.ofNat cn1)), .val (.int cpv), .val (.ref b35), .val (.int (Int32.ofNat cn2)), .val (.ref b45), .unset, .unset, .unset, .unset, .unset] [(.ref b35), (.int (Int32.ofNat cn2)), (.ref b18), (.ref b45)]))
  refine OGo.by (fun _ k => XS.aload X58.here hx rfl (hb hby at_231) rfl rfl k) ?_
  show OGo p e below _ (T58.setTop (mkF m 233 #[.val (.long ja), .second, .val (.long jb), .second, .val (.int p2), .val (.int p3), .val (.int p4), .val (.ref b1), .val (.ref b7), .val (.ref b11), .val (.ref b18), .val (.ref b26), .val (.int (Int32.ofNat cn1)), .val (.int cpv), .val (.ref b35), .val (.int (Int32.ofNat cn2)), .val (.ref b45), .unset, .unset, .unset, .unset, .unset] [(.ref b7), (.ref b35), (.int (Int32.ofNat cn2)), (.ref b18), (.ref b45)]))
  have f64 : Arv Z h58 b18 k18 .int (4 : Int32) (own_U.map Value.int) (.int (0 : Int32)) := ((f55.keep Kc51 (ninS ne_b18_b45 nin0)).keep Kc58 (ninS ne_b18_b45 (ninS ne_b18_zf_51 (ninS ne_b18_zs_51 (ninS ne_b18_zn_51 nin0)))))
  have f65 : Arv Z h58 b35 k35 .int (4 : Int32) (lv2.map Value.int) (.int (0 : Int32)) := ((f57.keep Kc51 (ninS ne_b35_b45 nin0)).keep Kc58 (ninS ne_b35_b45 (ninS ne_b35_zf_51 (ninS ne_b35_zs_51 (ninS ne_b35_zn_51 nin0)))))
  have f66 : Arv Z h58 b1 k1 .int (4 : Int32) (lr.map Value.int) (.int (0 : Int32)) := (f61.keep Kc58 (ninS ne_b1_b45 (ninS ne_b1_zf_51 (ninS ne_b1_zs_51 (ninS ne_b1_zn_51 nin0)))))
  have f67 : Arv Z h58 b7 k7 (.array .int) (1 : Int32) [(.ref b1)] .null := (f62.keep Kc58 (ninS ne_b7_b45 (ninS ne_b7_zf_51 (ninS ne_b7_zs_51 (ninS ne_b7_zn_51 nin0)))))
  obtain ⟨cq63, kq63, q63a, q63b, q63c⟩ := isOf hZ e58 G58_2
  have H63 := X58.virtualBack hx (y := (⟨"com/example/faces_into_crowds/facesintocrowds/Buckets", "sort", "([II[I[[I)V"⟩ : MethodName)) (z := (⟨"com/example/faces_into_crowds/facesintocrowds/Buckets", "sort", "([II[I[[I)V"⟩ : MethodName)) hown (mvT hZ (hw _ (List.mem_of_getElem? (i := 39) rfl))) (mvT hZ (hw _ (List.mem_of_getElem? (i := 40) rfl))) (notFace_of_selects (args := #[]) (mvT hZ (hw _ (List.mem_of_getElem? (i := 42) rfl)))) (mvT hZ (hw _ (List.mem_of_getElem? (i := 42) rfl))) (mvT hZ (hw _ (List.mem_of_getElem? (i := 41) rfl))) (by decide) (backOf (W := 0) (rm_so l Z av0 hw [] b45 b18 b35 b7 cn2 mm_51 cc_51 mb_58 ml_51 sh_51 cpv (.ref b11) zf_51 zs_51 zn_51 b1 k18 k35 k1 k7 kf_51 ks_51 kx_51 lv2 lr mF_58 mS_58 mX_58 h58 n0 (Nat.le_trans Z0 K58.1) G58_2 G58_3 G58_4 G58_5 G58_6 G58_7 G58_8 f64 f65 f66 f67 G58_9 G58_10 G58_11 ne_b45_zf_51 ne_b45_zs_51 ne_b45_zn_51 (Ne.symm ne_b18_b45) (Ne.symm ne_b35_b45) (Ne.symm ne_b7_b45) (Ne.symm ne_b1_b45) G51_4 G51_3 (Ne.symm ne_b18_zf_51) (Ne.symm ne_b35_zf_51) (Ne.symm ne_b7_zf_51) (Ne.symm ne_b1_zf_51) (Ne.symm G51_5) (Ne.symm ne_b18_zs_51) (Ne.symm ne_b35_zs_51) (Ne.symm ne_b7_zs_51) (Ne.symm ne_b1_zs_51) (Ne.symm ne_b18_zn_51) (Ne.symm ne_b35_zn_51) (Ne.symm ne_b7_zn_51) (Ne.symm ne_b1_zn_51) g_b45 g_zf_51 g_zs_51 g_zn_51 hcf (own_Inv_old G58_0 hle_cn1 (own_ldr_hit _ _)) G58_1 hV_lv2 hl_lr hle_cn2) hZ (hw _ (List.mem_of_getElem? (i := 43) rfl)) (hw _ (List.mem_of_getElem? (i := 6) rfl)) (by decide) (by decide)) q63a q63c (g := (mkF m 233 #[.val (.long ja), .second, .val (.long jb), .second, .val (.int p2), .val (.int p3), .val (.int p4), .val (.ref b1), .val (.ref b7), .val (.ref b11), .val (.ref b18), .val (.ref b26), .val (.int (Int32.ofNat cn1)), .val (.int cpv), .val (.ref b35), .val (.int (Int32.ofNat cn2)), .val (.ref b45), .unset, .unset, .unset, .unset, .unset] [(.ref b7), (.ref b35), (.int (Int32.ofNat cn2)), (.ref b18), (.ref b45)])) rfl (by rw [hml]; rfl) (Steps.refl _) (argsL := [(.ref b18), (.int (Int32.ofNat cn2)), (.ref b35), (.ref b7)]) (rest := []) (lenOf own_pd7 rfl) rfl (by show 2 * 0 + _ ≤ _; exact Nat.le_of_eq rfl) (hb hby at_233) (fun _ _ => ⟨rfl, e58, (by decide : 10 + 0 ≤ _), (by decide : 57 + 0 ≤ _)⟩)
  refine own_cpsS (own_cpsOf H63) (c' := 10) (s' := 57) rfl rfl N58 ?_
  clear H63
  intro v63 T63 L63 L63' hQ63 N63f X63
  obtain ⟨mF_63, mS_63, mX_63, mb_63, rfl, N63q, Kc63, G63_0, G63_1, G63_2, G63_3, G63_4, G63_5, G63_6, G63_7, G63_8, G63_9, G63_10, G63_11⟩ := hQ63
  have N63 := N63f N63q
  obtain ⟨h63, e63⟩ : ∃ z, T63.heap = z := ⟨_, rfl⟩
  rw [e63] at Kc63 G63_2 G63_3 G63_4 G63_5 G63_6 G63_7 G63_8 G63_9 G63_10 G63_11
  have K63 : Keep h0 h63 [] := (K58).trans Kc63 (allS (P := fun x => x ∈ ([] : List Addr) ∨ h0.size ≤ x) (Or.inr sz_b45) (allS (P := fun x => x ∈ ([] : List Addr) ∨ h0.size ≤ x) (Or.inr sz_zf_51) (allS (P := fun x => x ∈ ([] : List Addr) ∨ h0.size ≤ x) (Or.inr sz_zs_51) (allS (P := fun x => x ∈ ([] : List Addr) ∨ h0.size ≤ x) (Or.inr sz_zn_51) (all0 (P := fun x => x ∈ ([] : List Addr) ∨ h0.size ≤ x))))))
  show OGo p e below _ (T63.setTop (mkF m 236 #[.val (.long ja), .second, .val (.long jb), .second, .val (.int p2), .val (.int p3), .val (.int p4), .val (.ref b1), .val (.ref b7), .val (.ref b11), .val (.ref b18), .val (.ref b26), .val (.int (Int32.ofNat cn1)), .val (.int cpv), .val (.ref b35), .val (.int (Int32.ofNat cn2)), .val (.ref b45), .unset, .unset, .unset, .unset, .unset] []))
  refine OGo.by (fun _ k => XS.iconst X63.here hx rfl (hb hby at_236) k) ?_
  show OGo p e below _ (T63.setTop (mkF m 237 #[.val (.long ja), .second, .val (.long jb), .second, .val (.int p2), .val (.int p3), .val (.int p4), .val (.ref b1), .val (.ref b7), .val (.ref b11), .val (.ref b18), .val (.ref b26), .val (.int (Int32.ofNat cn1)), .val (.int cpv), .val (.ref b35), .val (.int (Int32.ofNat cn2)), .val (.ref b45), .unset, .unset, .unset, .unset, .unset] [(.int (4 : Int32))]))
  obtain ⟨T68, h68, k68, X68, e68, E68, A68, st68⟩ := newP X63 hx hZ (hw _ (List.mem_of_getElem? (i := 0) rfl)) e63 (g := (mkF m 237 #[.val (.long ja), .second, .val (.long jb), .second, .val (.int p2), .val (.int p3), .val (.int p4), .val (.ref b1), .val (.ref b7), .val (.ref b11), .val (.ref b18), .val (.ref b26), .val (.int (Int32.ofNat cn1)), .val (.int cpv), .val (.ref b35), .val (.int (Int32.ofNat cn2)), .val (.ref b45), .unset, .unset, .unset, .unset, .unset] [(.int (4 : Int32))])) rfl (hb hby at_237) rfl (by decide : ¬ ((4 : Int32) < (0 : Int32))) (cap := 4) (by decide) (by decide) (by decide) (by decide)
  obtain ⟨b68, g68⟩ : ∃ z, z = h63.size := ⟨_, rfl⟩
  rw [← g68] at A68 st68
  have f69 : Exa Z h63 b1 "[I" := (((f52.keep Kc51).keep Kc58).keep Kc63)
  have ne_b1_b68 : b1 ≠ b68 := Nat.ne_of_lt (Nat.lt_of_lt_of_le f69.lt (Nat.le_of_eq g68.symm))
  have f70 : Arv Z h63 b7 k7 (.array .int) (1 : Int32) [(.ref b1)] .null := (f67.keep Kc63 (ninS ne_b7_b45 (ninS ne_b7_zf_51 (ninS ne_b7_zs_51 (ninS ne_b7_zn_51 nin0)))))
  have ne_b7_b68 : b7 ≠ b68 := Nat.ne_of_lt (Nat.lt_of_lt_of_le f70.lt (Nat.le_of_eq g68.symm))
  have f71 : Arv Z h63 b11 k11 .int (4 : Int32) (own_U.map Value.int) (.int (0 : Int32)) := ((f59.keep Kc58 (ninS ne_b11_b45 (ninS ne_b11_zf_51 (ninS ne_b11_zs_51 (ninS ne_b11_zn_51 nin0))))).keep Kc63 (ninS ne_b11_b45 (ninS ne_b11_zf_51 (ninS ne_b11_zs_51 (ninS ne_b11_zn_51 nin0)))))
  have ne_b11_b68 : b11 ≠ b68 := Nat.ne_of_lt (Nat.lt_of_lt_of_le f71.lt (Nat.le_of_eq g68.symm))
  have f72 : Arv Z h63 b18 k18 .int (4 : Int32) (own_U.map Value.int) (.int (0 : Int32)) := (f64.keep Kc63 (ninS ne_b18_b45 (ninS ne_b18_zf_51 (ninS ne_b18_zs_51 (ninS ne_b18_zn_51 nin0)))))
  have ne_b18_b68 : b18 ≠ b68 := Nat.ne_of_lt (Nat.lt_of_lt_of_le f72.lt (Nat.le_of_eq g68.symm))
  have f73 : Arv Z h63 b26 k26 .int (4 : Int32) (lv1.map Value.int) (.int (0 : Int32)) := ((f60.keep Kc58 (ninS ne_b26_b45 (ninS ne_b26_zf_51 (ninS ne_b26_zs_51 (ninS ne_b26_zn_51 nin0))))).keep Kc63 (ninS ne_b26_b45 (ninS ne_b26_zf_51 (ninS ne_b26_zs_51 (ninS ne_b26_zn_51 nin0)))))
  have ne_b26_b68 : b26 ≠ b68 := Nat.ne_of_lt (Nat.lt_of_lt_of_le f73.lt (Nat.le_of_eq g68.symm))
  have f74 : Arv Z h63 b35 k35 .int (4 : Int32) (lv2.map Value.int) (.int (0 : Int32)) := (f65.keep Kc63 (ninS ne_b35_b45 (ninS ne_b35_zf_51 (ninS ne_b35_zs_51 (ninS ne_b35_zn_51 nin0)))))
  have ne_b35_b68 : b35 ≠ b68 := Nat.ne_of_lt (Nat.lt_of_lt_of_le f74.lt (Nat.le_of_eq g68.symm))
  have ne_b45_b68 : b45 ≠ b68 := Nat.ne_of_lt (Nat.lt_of_lt_of_le G63_2.lt (Nat.le_of_eq g68.symm))
  have ne_zf_51_b68 : zf_51 ≠ b68 := Nat.ne_of_lt (Nat.lt_of_lt_of_le G63_9.lt (Nat.le_of_eq g68.symm))
  have ne_zn_51_b68 : zn_51 ≠ b68 := Nat.ne_of_lt (Nat.lt_of_lt_of_le G63_11.lt (Nat.le_of_eq g68.symm))
  have ne_zs_51_b68 : zs_51 ≠ b68 := Nat.ne_of_lt (Nat.lt_of_lt_of_le G63_10.lt (Nat.le_of_eq g68.symm))
  have g_b68 : n0 ≤ b68 := Nat.le_trans (Nat.le_trans Z0 K63.1) (Nat.le_of_eq g68.symm)
  have sz_b68 : h0.size ≤ b68 := Nat.le_trans K63.1 (Nat.le_of_eq g68.symm)
  refine OGo.by st68 ?_
  have K68 : Keep h0 h68 [] := (K63).ext E68
  have V68 : Arv Z h68 b68 k68 .int (4 : Int32) [(.int (0 : Int32)), (.int (0 : Int32)), (.int (0 : Int32)), (.int (0 : Int32))] (.int (0 : Int32)) := (Arv.new A68 (by decide)).pad (pad_rep [] (.int (0 : Int32)) 4)
  show OGo p e below _ (T68.setTop (mkF m 239 #[.val (.long ja), .second, .val (.long jb), .second, .val (.int p2), .val (.int p3), .val (.int p4), .val (.ref b1), .val (.ref b7), .val (.ref b11), .val (.ref b18), .val (.ref b26), .val (.int (Int32.ofNat cn1)), .val (.int cpv), .val (.ref b35), .val (.int (Int32.ofNat cn2)), .val (.ref b45), .unset, .unset, .unset, .unset, .unset] [(.ref b68)]))
  refine OGo.by (fun _ k => XS.dup X68.here hx rfl (hb hby at_239) rfl rfl k) ?_
  show OGo p e below _ (T68.setTop (mkF m 240 #[.val (.long ja), .second, .val (.long jb), .second, .val (.int p2), .val (.int p3), .val (.int p4), .val (.ref b1), .val (.ref b7), .val (.ref b11), .val (.ref b18), .val (.ref b26), .val (.int (Int32.ofNat cn1)), .val (.int cpv), .val (.ref b35), .val (.int (Int32.ofNat cn2)), .val (.ref b45), .unset, .unset, .unset, .unset, .unset] [(.ref b68), (.ref b68)]))
  refine OGo.by (fun _ k => XS.iconst X68.here hx rfl (hb hby at_240) k) ?_
  show OGo p e below _ (T68.setTop (mkF m 241 #[.val (.long ja), .second, .val (.long jb), .second, .val (.int p2), .val (.int p3), .val (.int p4), .val (.ref b1), .val (.ref b7), .val (.ref b11), .val (.ref b18), .val (.ref b26), .val (.int (Int32.ofNat cn1)), .val (.int cpv), .val (.ref b35), .val (.int (Int32.ofNat cn2)), .val (.ref b45), .unset, .unset, .unset, .unset, .unset] [(.int (0 : Int32)), (.ref b68), (.ref b68)]))
  refine OGo.by (fun _ k => XS.aload X68.here hx rfl (hb hby at_241) rfl rfl k) ?_
  show OGo p e below _ (T68.setTop (mkF m 243 #[.val (.long ja), .second, .val (.long jb), .second, .val (.int p2), .val (.int p3), .val (.int p4), .val (.ref b1), .val (.ref b7), .val (.ref b11), .val (.ref b18), .val (.ref b26), .val (.int (Int32.ofNat cn1)), .val (.int cpv), .val (.ref b35), .val (.int (Int32.ofNat cn2)), .val (.ref b45), .unset, .unset, .unset, .unset, .unset] [(.ref b1), (.int (0 : Int32)), (.ref b68), (.ref b68)]))
  refine OGo.by (fun _ k => XS.aload X68.here hx rfl (hb hby at_243) rfl rfl k) ?_
  show OGo p e below _ (T68.setTop (mkF m 245 #[.val (.long ja), .second, .val (.long jb), .second, .val (.int p2), .val (.int p3), .val (.int p4), .val (.ref b1), .val (.ref b7), .val (.ref b11), .val (.ref b18), .val (.ref b26), .val (.int (Int32.ofNat cn1)), .val (.int cpv), .val (.ref b35), .val (.int (Int32.ofNat cn2)), .val (.ref b45), .unset, .unset, .unset, .unset, .unset] [(.ref b35), (.ref b1), (.int (0 : Int32)), (.ref b68), (.ref b68)]))
  refine OGo.by (fun _ k => XS.iconst X68.here hx rfl (hb hby at_245) k) ?_
  show OGo p e below _ (T68.setTop (mkF m 246 #[.val (.long ja), .second, .val (.long jb), .second, .val (.int p2), .val (.int p3), .val (.int p4), .val (.ref b1), .val (.ref b7), .val (.ref b11), .val (.ref b18), .val (.ref b26), .val (.int (Int32.ofNat cn1)), .val (.int cpv), .val (.ref b35), .val (.int (Int32.ofNat cn2)), .val (.ref b45), .unset, .unset, .unset, .unset, .unset] [(.int (0 : Int32)), (.ref b35), (.ref b1), (.int (0 : Int32)), (.ref b68), (.ref b68)]))
  have f75 : Arv Z h68 b35 k35 .int (4 : Int32) (lv2.map Value.int) (.int (0 : Int32)) := (f74.ext E68)
  obtain ⟨cl76, Ar76, q76, S76, M76, Hs76, G76⟩ := id f75
  have hin76 := inb_of (j := (0 : Int32)) S76 ⟨by decide, by decide⟩
  refine OGo.by (X68.iaload hx (j := (0 : Int32)) (v := (.int (lv2.getD 0 0))) (by rw [e68]; exact Ar76.1) (State.isArrayOf_alike hZ.alike Ar76.2.1) Ar76.2.2 hin76 (Has.at Hs76 hin76 (own_getD _ _)) (g := (mkF m 246 #[.val (.long ja), .second, .val (.long jb), .second, .val (.int p2), .val (.int p3), .val (.int p4), .val (.ref b1), .val (.ref b7), .val (.ref b11), .val (.ref b18), .val (.ref b26), .val (.int (Int32.ofNat cn1)), .val (.int cpv), .val (.ref b35), .val (.int (Int32.ofNat cn2)), .val (.ref b45), .unset, .unset, .unset, .unset, .unset] [(.int (0 : Int32)), (.ref b35), (.ref b1), (.int (0 : Int32)), (.ref b68), (.ref b68)])) rfl rfl (hb hby at_246)) ?_
  show OGo p e below _ (T68.setTop (mkF m 247 #[.val (.long ja), .second, .val (.long jb), .second, .val (.int p2), .val (.int p3), .val (.int p4), .val (.ref b1), .val (.ref b7), .val (.ref b11), .val (.ref b18), .val (.ref b26), .val (.int (Int32.ofNat cn1)), .val (.int cpv), .val (.ref b35), .val (.int (Int32.ofNat cn2)), .val (.ref b45), .unset, .unset, .unset, .unset, .unset] [(.int (lv2.getD 0 0)), (.ref b1), (.int (0 : Int32)), (.ref b68), (.ref b68)]))
  have f77 : Arv Z h68 b1 k1 .int (4 : Int32) (lr.map Value.int) (.int (0 : Int32)) := ((f66.keep Kc63 (ninS ne_b1_b45 (ninS ne_b1_zf_51 (ninS ne_b1_zs_51 (ninS ne_b1_zn_51 nin0))))).ext E68)
  obtain ⟨cl78, Ar78, q78, S78, M78, Hs78, G78⟩ := id f77
  have hin78 := inb_of (j := (lv2.getD 0 0)) S78 (hV_lv2.2 0 (by decide))
  refine OGo.by (X68.iaload hx (j := (lv2.getD 0 0)) (v := (.int (lr.getD ((lv2.getD 0 0)).toNatClampNeg 0))) (by rw [e68]; exact Ar78.1) (State.isArrayOf_alike hZ.alike Ar78.2.1) Ar78.2.2 hin78 (Has.at Hs78 hin78 (own_getD _ _)) (g := (mkF m 247 #[.val (.long ja), .second, .val (.long jb), .second, .val (.int p2), .val (.int p3), .val (.int p4), .val (.ref b1), .val (.ref b7), .val (.ref b11), .val (.ref b18), .val (.ref b26), .val (.int (Int32.ofNat cn1)), .val (.int cpv), .val (.ref b35), .val (.int (Int32.ofNat cn2)), .val (.ref b45), .unset, .unset, .unset, .unset, .unset] [(.int (lv2.getD 0 0)), (.ref b1), (.int (0 : Int32)), (.ref b68), (.ref b68)])) rfl rfl (hb hby at_247)) ?_
  show OGo p e below _ (T68.setTop (mkF m 248 #[.val (.long ja), .second, .val (.long jb), .second, .val (.int p2), .val (.int p3), .val (.int p4), .val (.ref b1), .val (.ref b7), .val (.ref b11), .val (.ref b18), .val (.ref b26), .val (.int (Int32.ofNat cn1)), .val (.int cpv), .val (.ref b35), .val (.int (Int32.ofNat cn2)), .val (.ref b45), .unset, .unset, .unset, .unset, .unset] [(.int (own_K lv2 lr 0)), (.int (0 : Int32)), (.ref b68), (.ref b68)]))
  obtain ⟨cl79, Ar79, q79, S79, M79, Hs79, G79⟩ := id V68
  obtain ⟨T79, h79, X79, e79, W79, st79⟩ := stI X68 hx hZ e68 Ar79 (j := (0 : Int32)) (inb_of S79 ⟨(by decide), (by decide)⟩) (g := (mkF m 248 #[.val (.long ja), .second, .val (.long jb), .second, .val (.int p2), .val (.int p3), .val (.int p4), .val (.ref b1), .val (.ref b7), .val (.ref b11), .val (.ref b18), .val (.ref b26), .val (.int (Int32.ofNat cn1)), .val (.int cpv), .val (.ref b35), .val (.int (Int32.ofNat cn2)), .val (.ref b45), .unset, .unset, .unset, .unset, .unset] [(.int (own_K lv2 lr 0)), (.int (0 : Int32)), (.ref b68), (.ref b68)])) rfl rfl (hb hby at_248)
  refine OGo.by st79 ?_
  have N79 := Fr.snoc X79 N63 g_b68
  have K79 : Keep h0 h79 [] := (K68).wr W79 (Or.inr sz_b68)
  have V79 : Arv Z h79 b68 k68 .int (4 : Int32) [(.int (own_K lv2 lr 0)), (.int (0 : Int32)), (.int (0 : Int32)), (.int (0 : Int32))] (.int (0 : Int32)) := Arv.set Ar79 q79 S79 M79 Hs79 G79 rfl W79 0 rfl (Nat.le_of_ble_eq_true rfl)
  show OGo p e below _ (T79.setTop (mkF m 249 #[.val (.long ja), .second, .val (.long jb), .second, .val (.int p2), .val (.int p3), .val (.int p4), .val (.ref b1), .val (.ref b7), .val (.ref b11), .val (.ref b18), .val (.ref b26), .val (.int (Int32.ofNat cn1)), .val (.int cpv), .val (.ref b35), .val (.int (Int32.ofNat cn2)), .val (.ref b45), .unset, .unset, .unset, .unset, .unset] [(.ref b68)]))
  refine OGo.by (fun _ k => XS.dup X79.here hx rfl (hb hby at_249) rfl rfl k) ?_
  show OGo p e below _ (T79.setTop (mkF m 250 #[.val (.long ja), .second, .val (.long jb), .second, .val (.int p2), .val (.int p3), .val (.int p4), .val (.ref b1), .val (.ref b7), .val (.ref b11), .val (.ref b18), .val (.ref b26), .val (.int (Int32.ofNat cn1)), .val (.int cpv), .val (.ref b35), .val (.int (Int32.ofNat cn2)), .val (.ref b45), .unset, .unset, .unset, .unset, .unset] [(.ref b68), (.ref b68)]))
  refine OGo.by (fun _ k => XS.iconst X79.here hx rfl (hb hby at_250) k) ?_
  show OGo p e below _ (T79.setTop (mkF m 251 #[.val (.long ja), .second, .val (.long jb), .second, .val (.int p2), .val (.int p3), .val (.int p4), .val (.ref b1), .val (.ref b7), .val (.ref b11), .val (.ref b18), .val (.ref b26), .val (.int (Int32.ofNat cn1)), .val (.int cpv), .val (.ref b35), .val (.int (Int32.ofNat cn2)), .val (.ref b45), .unset, .unset, .unset, .unset, .unset] [(.int (1 : Int32)), (.ref b68), (.ref b68)]))
  refine OGo.by (fun _ k => XS.aload X79.here hx rfl (hb hby at_251) rfl rfl k) ?_
  show OGo p e below _ (T79.setTop (mkF m 253 #[.val (.long ja), .second, .val (.long jb), .second, .val (.int p2), .val (.int p3), .val (.int p4), .val (.ref b1), .val (.ref b7), .val (.ref b11), .val (.ref b18), .val (.ref b26), .val (.int (Int32.ofNat cn1)), .val (.int cpv), .val (.ref b35), .val (.int (Int32.ofNat cn2)), .val (.ref b45), .unset, .unset, .unset, .unset, .unset] [(.ref b1), (.int (1 : Int32)), (.ref b68), (.ref b68)]))
  refine OGo.by (fun _ k => XS.aload X79.here hx rfl (hb hby at_253) rfl rfl k) ?_
  show OGo p e below _ (T79.setTop (mkF m 255 #[.val (.long ja), .second, .val (.long jb), .second, .val (.int p2), .val (.int p3), .val (.int p4), .val (.ref b1), .val (.ref b7), .val (.ref b11), .val (.ref b18), .val (.ref b26), .val (.int (Int32.ofNat cn1)), .val (.int cpv), .val (.ref b35), .val (.int (Int32.ofNat cn2)), .val (.ref b45), .unset, .unset, .unset, .unset, .unset] [(.ref b35), (.ref b1), (.int (1 : Int32)), (.ref b68), (.ref b68)]))
  refine OGo.by (fun _ k => XS.iconst X79.here hx rfl (hb hby at_255) k) ?_
  show OGo p e below _ (T79.setTop (mkF m 256 #[.val (.long ja), .second, .val (.long jb), .second, .val (.int p2), .val (.int p3), .val (.int p4), .val (.ref b1), .val (.ref b7), .val (.ref b11), .val (.ref b18), .val (.ref b26), .val (.int (Int32.ofNat cn1)), .val (.int cpv), .val (.ref b35), .val (.int (Int32.ofNat cn2)), .val (.ref b45), .unset, .unset, .unset, .unset, .unset] [(.int (1 : Int32)), (.ref b35), (.ref b1), (.int (1 : Int32)), (.ref b68), (.ref b68)]))
  have f80 : Arv Z h79 b35 k35 .int (4 : Int32) (lv2.map Value.int) (.int (0 : Int32)) := (f75.other W79 ne_b35_b68)
  obtain ⟨cl81, Ar81, q81, S81, M81, Hs81, G81⟩ := id f80
  have hin81 := inb_of (j := (1 : Int32)) S81 ⟨by decide, by decide⟩
  refine OGo.by (X79.iaload hx (j := (1 : Int32)) (v := (.int (lv2.getD 1 0))) (by rw [e79]; exact Ar81.1) (State.isArrayOf_alike hZ.alike Ar81.2.1) Ar81.2.2 hin81 (Has.at Hs81 hin81 (own_getD _ _)) (g := (mkF m 256 #[.val (.long ja), .second, .val (.long jb), .second, .val (.int p2), .val (.int p3), .val (.int p4), .val (.ref b1), .val (.ref b7), .val (.ref b11), .val (.ref b18), .val (.ref b26), .val (.int (Int32.ofNat cn1)), .val (.int cpv), .val (.ref b35), .val (.int (Int32.ofNat cn2)), .val (.ref b45), .unset, .unset, .unset, .unset, .unset] [(.int (1 : Int32)), (.ref b35), (.ref b1), (.int (1 : Int32)), (.ref b68), (.ref b68)])) rfl rfl (hb hby at_256)) ?_
  show OGo p e below _ (T79.setTop (mkF m 257 #[.val (.long ja), .second, .val (.long jb), .second, .val (.int p2), .val (.int p3), .val (.int p4), .val (.ref b1), .val (.ref b7), .val (.ref b11), .val (.ref b18), .val (.ref b26), .val (.int (Int32.ofNat cn1)), .val (.int cpv), .val (.ref b35), .val (.int (Int32.ofNat cn2)), .val (.ref b45), .unset, .unset, .unset, .unset, .unset] [(.int (lv2.getD 1 0)), (.ref b1), (.int (1 : Int32)), (.ref b68), (.ref b68)]))
  have f82 : Arv Z h79 b1 k1 .int (4 : Int32) (lr.map Value.int) (.int (0 : Int32)) := (f77.other W79 ne_b1_b68)
  obtain ⟨cl83, Ar83, q83, S83, M83, Hs83, G83⟩ := id f82
  have hin83 := inb_of (j := (lv2.getD 1 0)) S83 (hV_lv2.2 1 (by decide))
  refine OGo.by (X79.iaload hx (j := (lv2.getD 1 0)) (v := (.int (lr.getD ((lv2.getD 1 0)).toNatClampNeg 0))) (by rw [e79]; exact Ar83.1) (State.isArrayOf_alike hZ.alike Ar83.2.1) Ar83.2.2 hin83 (Has.at Hs83 hin83 (own_getD _ _)) (g := (mkF m 257 #[.val (.long ja), .second, .val (.long jb), .second, .val (.int p2), .val (.int p3), .val (.int p4), .val (.ref b1), .val (.ref b7), .val (.ref b11), .val (.ref b18), .val (.ref b26), .val (.int (Int32.ofNat cn1)), .val (.int cpv), .val (.ref b35), .val (.int (Int32.ofNat cn2)), .val (.ref b45), .unset, .unset, .unset, .unset, .unset] [(.int (lv2.getD 1 0)), (.ref b1), (.int (1 : Int32)), (.ref b68), (.ref b68)])) rfl rfl (hb hby at_257)) ?_
  show OGo p e below _ (T79.setTop (mkF m 258 #[.val (.long ja), .second, .val (.long jb), .second, .val (.int p2), .val (.int p3), .val (.int p4), .val (.ref b1), .val (.ref b7), .val (.ref b11), .val (.ref b18), .val (.ref b26), .val (.int (Int32.ofNat cn1)), .val (.int cpv), .val (.ref b35), .val (.int (Int32.ofNat cn2)), .val (.ref b45), .unset, .unset, .unset, .unset, .unset] [(.int (own_K lv2 lr 1)), (.int (1 : Int32)), (.ref b68), (.ref b68)]))
  obtain ⟨cl84, Ar84, q84, S84, M84, Hs84, G84⟩ := id V79
  obtain ⟨T84, h84, X84, e84, W84, st84⟩ := stI X79 hx hZ e79 Ar84 (j := (1 : Int32)) (inb_of S84 ⟨(by decide), (by decide)⟩) (g := (mkF m 258 #[.val (.long ja), .second, .val (.long jb), .second, .val (.int p2), .val (.int p3), .val (.int p4), .val (.ref b1), .val (.ref b7), .val (.ref b11), .val (.ref b18), .val (.ref b26), .val (.int (Int32.ofNat cn1)), .val (.int cpv), .val (.ref b35), .val (.int (Int32.ofNat cn2)), .val (.ref b45), .unset, .unset, .unset, .unset, .unset] [(.int (own_K lv2 lr 1)), (.int (1 : Int32)), (.ref b68), (.ref b68)])) rfl rfl (hb hby at_258)
  refine OGo.by st84 ?_
  have N84 := Fr.snoc X84 N79 g_b68
  have K84 : Keep h0 h84 [] := (K79).wr W84 (Or.inr sz_b68)
  have V84 : Arv Z h84 b68 k68 .int (4 : Int32) [(.int (own_K lv2 lr 0)), (.int (own_K lv2 lr 1)), (.int (0 : Int32)), (.int (0 : Int32))] (.int (0 : Int32)) := Arv.set Ar84 q84 S84 M84 Hs84 G84 rfl W84 1 rfl (Nat.le_of_ble_eq_true rfl)
  show OGo p e below _ (T84.setTop (mkF m 259 #[.val (.long ja), .second, .val (.long jb), .second, .val (.int p2), .val (.int p3), .val (.int p4), .val (.ref b1), .val (.ref b7), .val (.ref b11), .val (.ref b18), .val (.ref b26), .val (.int (Int32.ofNat cn1)), .val (.int cpv), .val (.ref b35), .val (.int (Int32.ofNat cn2)), .val (.ref b45), .unset, .unset, .unset, .unset, .unset] [(.ref b68)]))
  refine OGo.by (fun _ k => XS.dup X84.here hx rfl (hb hby at_259) rfl rfl k) ?_
  show OGo p e below _ (T84.setTop (mkF m 260 #[.val (.long ja), .second, .val (.long jb), .second, .val (.int p2), .val (.int p3), .val (.int p4), .val (.ref b1), .val (.ref b7), .val (.ref b11), .val (.ref b18), .val (.ref b26), .val (.int (Int32.ofNat cn1)), .val (.int cpv), .val (.ref b35), .val (.int (Int32.ofNat cn2)), .val (.ref b45), .unset, .unset, .unset, .unset, .unset] [(.ref b68), (.ref b68)]))
  refine OGo.by (fun _ k => XS.iconst X84.here hx rfl (hb hby at_260) k) ?_
  show OGo p e below _ (T84.setTop (mkF m 261 #[.val (.long ja), .second, .val (.long jb), .second, .val (.int p2), .val (.int p3), .val (.int p4), .val (.ref b1), .val (.ref b7), .val (.ref b11), .val (.ref b18), .val (.ref b26), .val (.int (Int32.ofNat cn1)), .val (.int cpv), .val (.ref b35), .val (.int (Int32.ofNat cn2)), .val (.ref b45), .unset, .unset, .unset, .unset, .unset] [(.int (2 : Int32)), (.ref b68), (.ref b68)]))
  refine OGo.by (fun _ k => XS.aload X84.here hx rfl (hb hby at_261) rfl rfl k) ?_
  show OGo p e below _ (T84.setTop (mkF m 263 #[.val (.long ja), .second, .val (.long jb), .second, .val (.int p2), .val (.int p3), .val (.int p4), .val (.ref b1), .val (.ref b7), .val (.ref b11), .val (.ref b18), .val (.ref b26), .val (.int (Int32.ofNat cn1)), .val (.int cpv), .val (.ref b35), .val (.int (Int32.ofNat cn2)), .val (.ref b45), .unset, .unset, .unset, .unset, .unset] [(.ref b1), (.int (2 : Int32)), (.ref b68), (.ref b68)]))
  refine OGo.by (fun _ k => XS.aload X84.here hx rfl (hb hby at_263) rfl rfl k) ?_
  show OGo p e below _ (T84.setTop (mkF m 265 #[.val (.long ja), .second, .val (.long jb), .second, .val (.int p2), .val (.int p3), .val (.int p4), .val (.ref b1), .val (.ref b7), .val (.ref b11), .val (.ref b18), .val (.ref b26), .val (.int (Int32.ofNat cn1)), .val (.int cpv), .val (.ref b35), .val (.int (Int32.ofNat cn2)), .val (.ref b45), .unset, .unset, .unset, .unset, .unset] [(.ref b35), (.ref b1), (.int (2 : Int32)), (.ref b68), (.ref b68)]))
  refine OGo.by (fun _ k => XS.iconst X84.here hx rfl (hb hby at_265) k) ?_
  show OGo p e below _ (T84.setTop (mkF m 266 #[.val (.long ja), .second, .val (.long jb), .second, .val (.int p2), .val (.int p3), .val (.int p4), .val (.ref b1), .val (.ref b7), .val (.ref b11), .val (.ref b18), .val (.ref b26), .val (.int (Int32.ofNat cn1)), .val (.int cpv), .val (.ref b35), .val (.int (Int32.ofNat cn2)), .val (.ref b45), .unset, .unset, .unset, .unset, .unset] [(.int (2 : Int32)), (.ref b35), (.ref b1), (.int (2 : Int32)), (.ref b68), (.ref b68)]))
  have f85 : Arv Z h84 b35 k35 .int (4 : Int32) (lv2.map Value.int) (.int (0 : Int32)) := (f80.other W84 ne_b35_b68)
  obtain ⟨cl86, Ar86, q86, S86, M86, Hs86, G86⟩ := id f85
  have hin86 := inb_of (j := (2 : Int32)) S86 ⟨by decide, by decide⟩
  refine OGo.by (X84.iaload hx (j := (2 : Int32)) (v := (.int (lv2.getD 2 0))) (by rw [e84]; exact Ar86.1) (State.isArrayOf_alike hZ.alike Ar86.2.1) Ar86.2.2 hin86 (Has.at Hs86 hin86 (own_getD _ _)) (g := (mkF m 266 #[.val (.long ja), .second, .val (.long jb), .second, .val (.int p2), .val (.int p3), .val (.int p4), .val (.ref b1), .val (.ref b7), .val (.ref b11), .val (.ref b18), .val (.ref b26), .val (.int (Int32.ofNat cn1)), .val (.int cpv), .val (.ref b35), .val (.int (Int32.ofNat cn2)), .val (.ref b45), .unset, .unset, .unset, .unset, .unset] [(.int (2 : Int32)), (.ref b35), (.ref b1), (.int (2 : Int32)), (.ref b68), (.ref b68)])) rfl rfl (hb hby at_266)) ?_
  show OGo p e below _ (T84.setTop (mkF m 267 #[.val (.long ja), .second, .val (.long jb), .second, .val (.int p2), .val (.int p3), .val (.int p4), .val (.ref b1), .val (.ref b7), .val (.ref b11), .val (.ref b18), .val (.ref b26), .val (.int (Int32.ofNat cn1)), .val (.int cpv), .val (.ref b35), .val (.int (Int32.ofNat cn2)), .val (.ref b45), .unset, .unset, .unset, .unset, .unset] [(.int (lv2.getD 2 0)), (.ref b1), (.int (2 : Int32)), (.ref b68), (.ref b68)]))
  have f87 : Arv Z h84 b1 k1 .int (4 : Int32) (lr.map Value.int) (.int (0 : Int32)) := (f82.other W84 ne_b1_b68)
  obtain ⟨cl88, Ar88, q88, S88, M88, Hs88, G88⟩ := id f87
  have hin88 := inb_of (j := (lv2.getD 2 0)) S88 (hV_lv2.2 2 (by decide))
  refine OGo.by (X84.iaload hx (j := (lv2.getD 2 0)) (v := (.int (lr.getD ((lv2.getD 2 0)).toNatClampNeg 0))) (by rw [e84]; exact Ar88.1) (State.isArrayOf_alike hZ.alike Ar88.2.1) Ar88.2.2 hin88 (Has.at Hs88 hin88 (own_getD _ _)) (g := (mkF m 267 #[.val (.long ja), .second, .val (.long jb), .second, .val (.int p2), .val (.int p3), .val (.int p4), .val (.ref b1), .val (.ref b7), .val (.ref b11), .val (.ref b18), .val (.ref b26), .val (.int (Int32.ofNat cn1)), .val (.int cpv), .val (.ref b35), .val (.int (Int32.ofNat cn2)), .val (.ref b45), .unset, .unset, .unset, .unset, .unset] [(.int (lv2.getD 2 0)), (.ref b1), (.int (2 : Int32)), (.ref b68), (.ref b68)])) rfl rfl (hb hby at_267)) ?_
  show OGo p e below _ (T84.setTop (mkF m 268 #[.val (.long ja), .second, .val (.long jb), .second, .val (.int p2), .val (.int p3), .val (.int p4), .val (.ref b1), .val (.ref b7), .val (.ref b11), .val (.ref b18), .val (.ref b26), .val (.int (Int32.ofNat cn1)), .val (.int cpv), .val (.ref b35), .val (.int (Int32.ofNat cn2)), .val (.ref b45), .unset, .unset, .unset, .unset, .unset] [(.int (own_K lv2 lr 2)), (.int (2 : Int32)), (.ref b68), (.ref b68)]))
  obtain ⟨cl89, Ar89, q89, S89, M89, Hs89, G89⟩ := id V84
  obtain ⟨T89, h89, X89, e89, W89, st89⟩ := stI X84 hx hZ e84 Ar89 (j := (2 : Int32)) (inb_of S89 ⟨(by decide), (by decide)⟩) (g := (mkF m 268 #[.val (.long ja), .second, .val (.long jb), .second, .val (.int p2), .val (.int p3), .val (.int p4), .val (.ref b1), .val (.ref b7), .val (.ref b11), .val (.ref b18), .val (.ref b26), .val (.int (Int32.ofNat cn1)), .val (.int cpv), .val (.ref b35), .val (.int (Int32.ofNat cn2)), .val (.ref b45), .unset, .unset, .unset, .unset, .unset] [(.int (own_K lv2 lr 2)), (.int (2 : Int32)), (.ref b68), (.ref b68)])) rfl rfl (hb hby at_268)
  refine OGo.by st89 ?_
  have N89 := Fr.snoc X89 N84 g_b68
  have K89 : Keep h0 h89 [] := (K84).wr W89 (Or.inr sz_b68)
  have V89 : Arv Z h89 b68 k68 .int (4 : Int32) [(.int (own_K lv2 lr 0)), (.int (own_K lv2 lr 1)), (.int (own_K lv2 lr 2)), (.int (0 : Int32))] (.int (0 : Int32)) := Arv.set Ar89 q89 S89 M89 Hs89 G89 rfl W89 2 rfl (Nat.le_of_ble_eq_true rfl)
  show OGo p e below _ (T89.setTop (mkF m 269 #[.val (.long ja), .second, .val (.long jb), .second, .val (.int p2), .val (.int p3), .val (.int p4), .val (.ref b1), .val (.ref b7), .val (.ref b11), .val (.ref b18), .val (.ref b26), .val (.int (Int32.ofNat cn1)), .val (.int cpv), .val (.ref b35), .val (.int (Int32.ofNat cn2)), .val (.ref b45), .unset, .unset, .unset, .unset, .unset] [(.ref b68)]))
  refine OGo.by (fun _ k => XS.dup X89.here hx rfl (hb hby at_269) rfl rfl k) ?_
  show OGo p e below _ (T89.setTop (mkF m 270 #[.val (.long ja), .second, .val (.long jb), .second, .val (.int p2), .val (.int p3), .val (.int p4), .val (.ref b1), .val (.ref b7), .val (.ref b11), .val (.ref b18), .val (.ref b26), .val (.int (Int32.ofNat cn1)), .val (.int cpv), .val (.ref b35), .val (.int (Int32.ofNat cn2)), .val (.ref b45), .unset, .unset, .unset, .unset, .unset] [(.ref b68), (.ref b68)]))
  refine OGo.by (fun _ k => XS.iconst X89.here hx rfl (hb hby at_270) k) ?_
  show OGo p e below _ (T89.setTop (mkF m 271 #[.val (.long ja), .second, .val (.long jb), .second, .val (.int p2), .val (.int p3), .val (.int p4), .val (.ref b1), .val (.ref b7), .val (.ref b11), .val (.ref b18), .val (.ref b26), .val (.int (Int32.ofNat cn1)), .val (.int cpv), .val (.ref b35), .val (.int (Int32.ofNat cn2)), .val (.ref b45), .unset, .unset, .unset, .unset, .unset] [(.int (3 : Int32)), (.ref b68), (.ref b68)]))
  refine OGo.by (fun _ k => XS.aload X89.here hx rfl (hb hby at_271) rfl rfl k) ?_
  show OGo p e below _ (T89.setTop (mkF m 273 #[.val (.long ja), .second, .val (.long jb), .second, .val (.int p2), .val (.int p3), .val (.int p4), .val (.ref b1), .val (.ref b7), .val (.ref b11), .val (.ref b18), .val (.ref b26), .val (.int (Int32.ofNat cn1)), .val (.int cpv), .val (.ref b35), .val (.int (Int32.ofNat cn2)), .val (.ref b45), .unset, .unset, .unset, .unset, .unset] [(.ref b1), (.int (3 : Int32)), (.ref b68), (.ref b68)]))
  refine OGo.by (fun _ k => XS.aload X89.here hx rfl (hb hby at_273) rfl rfl k) ?_
  show OGo p e below _ (T89.setTop (mkF m 275 #[.val (.long ja), .second, .val (.long jb), .second, .val (.int p2), .val (.int p3), .val (.int p4), .val (.ref b1), .val (.ref b7), .val (.ref b11), .val (.ref b18), .val (.ref b26), .val (.int (Int32.ofNat cn1)), .val (.int cpv), .val (.ref b35), .val (.int (Int32.ofNat cn2)), .val (.ref b45), .unset, .unset, .unset, .unset, .unset] [(.ref b35), (.ref b1), (.int (3 : Int32)), (.ref b68), (.ref b68)]))
  refine OGo.by (fun _ k => XS.iconst X89.here hx rfl (hb hby at_275) k) ?_
  show OGo p e below _ (T89.setTop (mkF m 276 #[.val (.long ja), .second, .val (.long jb), .second, .val (.int p2), .val (.int p3), .val (.int p4), .val (.ref b1), .val (.ref b7), .val (.ref b11), .val (.ref b18), .val (.ref b26), .val (.int (Int32.ofNat cn1)), .val (.int cpv), .val (.ref b35), .val (.int (Int32.ofNat cn2)), .val (.ref b45), .unset, .unset, .unset, .unset, .unset] [(.int (3 : Int32)), (.ref b35), (.ref b1), (.int (3 : Int32)), (.ref b68), (.ref b68)]))
  have f90 : Arv Z h89 b35 k35 .int (4 : Int32) (lv2.map Value.int) (.int (0 : Int32)) := (f85.other W89 ne_b35_b68)
  obtain ⟨cl91, Ar91, q91, S91, M91, Hs91, G91⟩ := id f90
  have hin91 := inb_of (j := (3 : Int32)) S91 ⟨by decide, by decide⟩
  refine OGo.by (X89.iaload hx (j := (3 : Int32)) (v := (.int (lv2.getD 3 0))) (by rw [e89]; exact Ar91.1) (State.isArrayOf_alike hZ.alike Ar91.2.1) Ar91.2.2 hin91 (Has.at Hs91 hin91 (own_getD _ _)) (g := (mkF m 276 #[.val (.long ja), .second, .val (.long jb), .second, .val (.int p2), .val (.int p3), .val (.int p4), .val (.ref b1), .val (.ref b7), .val (.ref b11), .val (.ref b18), .val (.ref b26), .val (.int (Int32.ofNat cn1)), .val (.int cpv), .val (.ref b35), .val (.int (Int32.ofNat cn2)), .val (.ref b45), .unset, .unset, .unset, .unset, .unset] [(.int (3 : Int32)), (.ref b35), (.ref b1), (.int (3 : Int32)), (.ref b68), (.ref b68)])) rfl rfl (hb hby at_276)) ?_
  show OGo p e below _ (T89.setTop (mkF m 277 #[.val (.long ja), .second, .val (.long jb), .second, .val (.int p2), .val (.int p3), .val (.int p4), .val (.ref b1), .val (.ref b7), .val (.ref b11), .val (.ref b18), .val (.ref b26), .val (.int (Int32.ofNat cn1)), .val (.int cpv), .val (.ref b35), .val (.int (Int32.ofNat cn2)), .val (.ref b45), .unset, .unset, .unset, .unset, .unset] [(.int (lv2.getD 3 0)), (.ref b1), (.int (3 : Int32)), (.ref b68), (.ref b68)]))
  have f92 : Arv Z h89 b1 k1 .int (4 : Int32) (lr.map Value.int) (.int (0 : Int32)) := (f87.other W89 ne_b1_b68)
  obtain ⟨cl93, Ar93, q93, S93, M93, Hs93, G93⟩ := id f92
  have hin93 := inb_of (j := (lv2.getD 3 0)) S93 (hV_lv2.2 3 (by decide))
  refine OGo.by (X89.iaload hx (j := (lv2.getD 3 0)) (v := (.int (lr.getD ((lv2.getD 3 0)).toNatClampNeg 0))) (by rw [e89]; exact Ar93.1) (State.isArrayOf_alike hZ.alike Ar93.2.1) Ar93.2.2 hin93 (Has.at Hs93 hin93 (own_getD _ _)) (g := (mkF m 277 #[.val (.long ja), .second, .val (.long jb), .second, .val (.int p2), .val (.int p3), .val (.int p4), .val (.ref b1), .val (.ref b7), .val (.ref b11), .val (.ref b18), .val (.ref b26), .val (.int (Int32.ofNat cn1)), .val (.int cpv), .val (.ref b35), .val (.int (Int32.ofNat cn2)), .val (.ref b45), .unset, .unset, .unset, .unset, .unset] [(.int (lv2.getD 3 0)), (.ref b1), (.int (3 : Int32)), (.ref b68), (.ref b68)])) rfl rfl (hb hby at_277)) ?_
  show OGo p e below _ (T89.setTop (mkF m 278 #[.val (.long ja), .second, .val (.long jb), .second, .val (.int p2), .val (.int p3), .val (.int p4), .val (.ref b1), .val (.ref b7), .val (.ref b11), .val (.ref b18), .val (.ref b26), .val (.int (Int32.ofNat cn1)), .val (.int cpv), .val (.ref b35), .val (.int (Int32.ofNat cn2)), .val (.ref b45), .unset, .unset, .unset, .unset, .unset] [(.int (own_K lv2 lr 3)), (.int (3 : Int32)), (.ref b68), (.ref b68)]))
  obtain ⟨cl94, Ar94, q94, S94, M94, Hs94, G94⟩ := id V89
  obtain ⟨T94, h94, X94, e94, W94, st94⟩ := stI X89 hx hZ e89 Ar94 (j := (3 : Int32)) (inb_of S94 ⟨(by decide), (by decide)⟩) (g := (mkF m 278 #[.val (.long ja), .second, .val (.long jb), .second, .val (.int p2), .val (.int p3), .val (.int p4), .val (.ref b1), .val (.ref b7), .val (.ref b11), .val (.ref b18), .val (.ref b26), .val (.int (Int32.ofNat cn1)), .val (.int cpv), .val (.ref b35), .val (.int (Int32.ofNat cn2)), .val (.ref b45), .unset, .unset, .unset, .unset, .unset] [(.int (own_K lv2 lr 3)), (.int (3 : Int32)), (.ref b68), (.ref b68)])) rfl rfl (hb hby at_278)
  refine OGo.by st94 ?_
  have N94 := Fr.snoc X94 N89 g_b68
  have K94 : Keep h0 h94 [] := (K89).wr W94 (Or.inr sz_b68)
  have V94 : Arv Z h94 b68 k68 .int (4 : Int32) [(.int (own_K lv2 lr 0)), (.int (own_K lv2 lr 1)), (.int (own_K lv2 lr 2)), (.int (own_K lv2 lr 3))] (.int (0 : Int32)) := Arv.set Ar94 q94 S94 M94 Hs94 G94 rfl W94 3 rfl (Nat.le_of_ble_eq_true rfl)
  show OGo p e below _ (T94.setTop (mkF m 279 #[.val (.long ja), .second, .val (.long jb), .second, .val (.int p2), .val (.int p3), .val (.int p4), .val (.ref b1), .val (.ref b7), .val (.ref b11), .val (.ref b18), .val (.ref b26), .val (.int (Int32.ofNat cn1)), .val (.int cpv), .val (.ref b35), .val (.int (Int32.ofNat cn2)), .val (.ref b45), .unset, .unset, .unset, .unset, .unset] [(.ref b68)]))
  refine OGo.by (fun _ k => XS.astore X94.here hx rfl (hb hby at_279) rfl rfl (l' := #[.val (.long ja), .second, .val (.long jb), .second, .val (.int p2), .val (.int p3), .val (.int p4), .val (.ref b1), .val (.ref b7), .val (.ref b11), .val (.ref b18), .val (.ref b26), .val (.int (Int32.ofNat cn1)), .val (.int cpv), .val (.ref b35), .val (.int (Int32.ofNat cn2)), .val (.ref b45), .val (.ref b68), .unset, .unset, .unset, .unset]) rfl k) ?_
  show OGo p e below _ (T94.setTop (mkF m 281 #[.val (.long ja), .second, .val (.long jb), .second, .val (.int p2), .val (.int p3), .val (.int p4), .val (.ref b1), .val (.ref b7), .val (.ref b11), .val (.ref b18), .val (.ref b26), .val (.int (Int32.ofNat cn1)), .val (.int cpv), .val (.ref b35), .val (.int (Int32.ofNat cn2)), .val (.ref b45), .val (.ref b68), .unset, .unset, .unset, .unset] []))
  refine OGo.by (fun _ k => XS.aload X94.here hx rfl (hb hby at_281) rfl rfl k) ?_
  show OGo p e below _ (T94.setTop (mkF m 283 #[.val (.long ja), .second, .val (.long jb), .second, .val (.int p2), .val (.int p3), .val (.int p4), .val (.ref b1), .val (.ref b7), .val (.ref b11), .val (.ref b18), .val (.ref b26), .val (.int (Int32.ofNat cn1)), .val (.int cpv), .val (.ref b35), .val (.int (Int32.ofNat cn2)), .val (.ref b45), .val (.ref b68), .unset, .unset, .unset, .unset] [(.ref b68)]))
  refine OGo.by (fun _ k => XS.iload X94.here hx rfl (hb hby at_283) rfl k) ?_
  show OGo p e below _ (T94.setTop (mkF m 285 #[.val (.long ja), .second, .val (.long jb), .second, .val (.int p2), .val (.int p3), .val (.int p4), .val (.ref b1), .val (.ref b7), .val (.ref b11), .val (.ref b18), .val (.ref b26), .val (.int (Int32.ofNat cn1)), .val (.int cpv), .val (.ref b35), .val (.int (Int32.ofNat cn2)), .val (.ref b45), .val (.ref b68), .unset, .unset, .unset, .unset] [(.int (Int32.ofNat cn2)), (.ref b68)]))
  have H95 := Jvm.LawKit.callS X94 hx (y := (⟨"com/example/faces_into_crowds/facesintocrowds/BucketsFirstPinLaw", "bucketCount", "([II)I"⟩ : MethodName)) hown (mvT hZ (hw _ (List.mem_of_getElem? (i := 48) rfl))) (mvT hZ (hw _ (List.mem_of_getElem? (i := 49) rfl))) (mvT hZ (hw _ (List.mem_of_getElem? (i := 50) rfl))) (mvT hZ (hw _ (List.mem_of_getElem? (i := 51) rfl))) (by decide) (backOf (W := 0) (rm_bc l Z av0 hw [] b68 (Int32.ofNat cn2) k68 (own_K lv2 lr 0) (own_K lv2 lr 1) (own_K lv2 lr 2) (own_K lv2 lr 3) h94 n0 (Nat.le_trans Z0 K94.1) V94) hZ (hw _ (List.mem_of_getElem? (i := 51) rfl)) (hw _ (List.mem_of_getElem? (i := 50) rfl)) (by decide) (by decide)) (g := (mkF m 285 #[.val (.long ja), .second, .val (.long jb), .second, .val (.int p2), .val (.int p3), .val (.int p4), .val (.ref b1), .val (.ref b7), .val (.ref b11), .val (.ref b18), .val (.ref b26), .val (.int (Int32.ofNat cn1)), .val (.int cpv), .val (.ref b35), .val (.int (Int32.ofNat cn2)), .val (.ref b45), .val (.ref b68), .unset, .unset, .unset, .unset] [(.int (Int32.ofNat cn2)), (.ref b68)])) rfl (by rw [hml]; rfl) (argsL := [(.ref b68), (.int (Int32.ofNat cn2))]) (rest := []) (lenOf own_pd8 rfl) rfl (by show 2 * 0 + _ ≤ _; exact Nat.le_of_eq rfl) (hb hby at_285) (fun _ _ => ⟨rfl, e94, (by decide : 11 + 0 ≤ _), (by decide : 61 + 0 ≤ _)⟩)
  refine own_cpsP H95 (c' := 11) (s' := 61) rfl rfl N94 (r := (some (.int (own_bc (Int32.ofNat cn2) (own_K lv2 lr 0) (own_K lv2 lr 1) (own_K lv2 lr 2) (own_K lv2 lr 3))))) (h1 := h94) (fun _ _ _ q => q) ?_
  clear H95
  intro T95 L95 X95 N95 e95
  show OGo p e below _ (T95.setTop (mkF m 288 #[.val (.long ja), .second, .val (.long jb), .second, .val (.int p2), .val (.int p3), .val (.int p4), .val (.ref b1), .val (.ref b7), .val (.ref b11), .val (.ref b18), .val (.ref b26), .val (.int (Int32.ofNat cn1)), .val (.int cpv), .val (.ref b35), .val (.int (Int32.ofNat cn2)), .val (.ref b45), .val (.ref b68), .unset, .unset, .unset, .unset] [(.int (own_bc (Int32.ofNat cn2) (own_K lv2 lr 0) (own_K lv2 lr 1) (own_K lv2 lr 2) (own_K lv2 lr 3)))]))
  rw [own_bcE (own_K lv2 lr) hle_cn2, ← G63_0.2.2.1]
  show OGo p e below _ (T95.setTop (mkF m 288 #[.val (.long ja), .second, .val (.long jb), .second, .val (.int p2), .val (.int p3), .val (.int p4), .val (.ref b1), .val (.ref b7), .val (.ref b11), .val (.ref b18), .val (.ref b26), .val (.int (Int32.ofNat cn1)), .val (.int cpv), .val (.ref b35), .val (.int (Int32.ofNat cn2)), .val (.ref b45), .val (.ref b68), .unset, .unset, .unset, .unset] [(.int (Int32.ofNat mb_63))]))
  refine OGo.by (fun _ k => XS.istore X95.here hx rfl (hb hby at_288) rfl (l' := #[.val (.long ja), .second, .val (.long jb), .second, .val (.int p2), .val (.int p3), .val (.int p4), .val (.ref b1), .val (.ref b7), .val (.ref b11), .val (.ref b18), .val (.ref b26), .val (.int (Int32.ofNat cn1)), .val (.int cpv), .val (.ref b35), .val (.int (Int32.ofNat cn2)), .val (.ref b45), .val (.ref b68), .val (.int (Int32.ofNat mb_63)), .unset, .unset, .unset]) rfl k) ?_
  show OGo p e below _ (T95.setTop (mkF m 290 #[.val (.long ja), .second, .val (.long jb), .second, .val (.int p2), .val (.int p3), .val (.int p4), .val (.ref b1), .val (.ref b7), .val (.ref b11), .val (.ref b18), .val (.ref b26), .val (.int (Int32.ofNat cn1)), .val (.int cpv), .val (.ref b35), .val (.int (Int32.ofNat cn2)), .val (.ref b45), .val (.ref b68), .val (.int (Int32.ofNat mb_63)), .unset, .unset, .unset] []))
  refine OGo.by (fun _ k => XS.aload X95.here hx rfl (hb hby at_290) rfl rfl k) ?_
  show OGo p e below _ (T95.setTop (mkF m 292 #[.val (.long ja), .second, .val (.long jb), .second, .val (.int p2), .val (.int p3), .val (.int p4), .val (.ref b1), .val (.ref b7), .val (.ref b11), .val (.ref b18), .val (.ref b26), .val (.int (Int32.ofNat cn1)), .val (.int cpv), .val (.ref b35), .val (.int (Int32.ofNat cn2)), .val (.ref b45), .val (.ref b68), .val (.int (Int32.ofNat mb_63)), .unset, .unset, .unset] [(.ref b45)]))
  have f97 : Fld Z h94 b45 "com/example/faces_into_crowds/facesintocrowds/Buckets" "mBuckets" "I" (.int (Int32.ofNat mb_63)) := (((((G63_7.ext E68).other W79 (Or.inl ne_b45_b68)).other W84 (Or.inl ne_b45_b68)).other W89 (Or.inl ne_b45_b68)).other W94 (Or.inl ne_b45_b68))
  have f98 : Exa Z h94 b45 "com/example/faces_into_crowds/facesintocrowds/Buckets" := (((((G63_2.ext E68).wr W79).wr W84).wr W89).wr W94)
  obtain ⟨cq96, kq96, q96a, q96b, q96c⟩ := isOf hZ e95 f98
  have H96 := X95.virtualBack hx (y := (⟨"com/example/faces_into_crowds/facesintocrowds/Buckets", "count", "()I"⟩ : MethodName)) (z := (⟨"com/example/faces_into_crowds/facesintocrowds/Buckets", "count", "()I"⟩ : MethodName)) hown (mvT hZ (hw _ (List.mem_of_getElem? (i := 52) rfl))) (mvT hZ (hw _ (List.mem_of_getElem? (i := 53) rfl))) (notFace_of_selects (args := #[]) (mvT hZ (hw _ (List.mem_of_getElem? (i := 55) rfl)))) (mvT hZ (hw _ (List.mem_of_getElem? (i := 55) rfl))) (mvT hZ (hw _ (List.mem_of_getElem? (i := 54) rfl))) (by decide) (backOf (W := 0) (rm_ct l Z av0 hw [] b45 (Int32.ofNat mb_63) h94 n0 (Nat.le_trans Z0 K94.1) f97) hZ (hw _ (List.mem_of_getElem? (i := 56) rfl)) (hw _ (List.mem_of_getElem? (i := 6) rfl)) (by decide) (by decide)) q96a q96c (g := (mkF m 292 #[.val (.long ja), .second, .val (.long jb), .second, .val (.int p2), .val (.int p3), .val (.int p4), .val (.ref b1), .val (.ref b7), .val (.ref b11), .val (.ref b18), .val (.ref b26), .val (.int (Int32.ofNat cn1)), .val (.int cpv), .val (.ref b35), .val (.int (Int32.ofNat cn2)), .val (.ref b45), .val (.ref b68), .val (.int (Int32.ofNat mb_63)), .unset, .unset, .unset] [(.ref b45)])) rfl (by rw [hml]; rfl) (Steps.refl _) (argsL := []) (rest := []) (lenOf own_pd9 rfl) rfl (by show 2 * 0 + _ ≤ _; exact Nat.le_of_eq rfl) (hb hby at_292) (fun _ _ => ⟨rfl, e95, (by decide : 11 + 0 ≤ _), (by decide : 61 + 0 ≤ _)⟩)
  refine own_cpsP (own_cpsOf H96) (c' := 11) (s' := 61) rfl rfl N95 (r := (some (.int (Int32.ofNat mb_63)))) (h1 := h94) (fun _ _ _ q => q) ?_
  clear H96
  intro T96 L96 X96 N96 e96
  show OGo p e below _ (T96.setTop (mkF m 295 #[.val (.long ja), .second, .val (.long jb), .second, .val (.int p2), .val (.int p3), .val (.int p4), .val (.ref b1), .val (.ref b7), .val (.ref b11), .val (.ref b18), .val (.ref b26), .val (.int (Int32.ofNat cn1)), .val (.int cpv), .val (.ref b35), .val (.int (Int32.ofNat cn2)), .val (.ref b45), .val (.ref b68), .val (.int (Int32.ofNat mb_63)), .unset, .unset, .unset] [(.int (Int32.ofNat mb_63))]))
  refine OGo.by (fun _ k => XS.iload X96.here hx rfl (hb hby at_295) rfl k) ?_
  show OGo p e below _ (T96.setTop (mkF m 297 #[.val (.long ja), .second, .val (.long jb), .second, .val (.int p2), .val (.int p3), .val (.int p4), .val (.ref b1), .val (.ref b7), .val (.ref b11), .val (.ref b18), .val (.ref b26), .val (.int (Int32.ofNat cn1)), .val (.int cpv), .val (.ref b35), .val (.int (Int32.ofNat cn2)), .val (.ref b45), .val (.ref b68), .val (.int (Int32.ofNat mb_63)), .unset, .unset, .unset] [(.int (Int32.ofNat mb_63)), (.int (Int32.ofNat mb_63))]))
  refine OGo.by (fun _ k => XS.icmpYes X96.here hx rfl (pc0 := 297) (pc' := 302) rfl (hb hby at_297) rfl (teq (rfl : (Int32.ofNat mb_63) = (Int32.ofNat mb_63))).1 (by decide) (by decide) k) ?_
  show OGo p e below _ (T96.setTop (mkF m 302 #[.val (.long ja), .second, .val (.long jb), .second, .val (.int p2), .val (.int p3), .val (.int p4), .val (.ref b1), .val (.ref b7), .val (.ref b11), .val (.ref b18), .val (.ref b26), .val (.int (Int32.ofNat cn1)), .val (.int cpv), .val (.ref b35), .val (.int (Int32.ofNat cn2)), .val (.ref b45), .val (.ref b68), .val (.int (Int32.ofNat mb_63)), .unset, .unset, .unset] []))
  refine OGo.by (fun _ k => XS.iload X96.here hx rfl (hb hby at_302) rfl k) ?_
  show OGo p e below _ (T96.setTop (mkF m 304 #[.val (.long ja), .second, .val (.long jb), .second, .val (.int p2), .val (.int p3), .val (.int p4), .val (.ref b1), .val (.ref b7), .val (.ref b11), .val (.ref b18), .val (.ref b26), .val (.int (Int32.ofNat cn1)), .val (.int cpv), .val (.ref b35), .val (.int (Int32.ofNat cn2)), .val (.ref b45), .val (.ref b68), .val (.int (Int32.ofNat mb_63)), .unset, .unset, .unset] [(.int (Int32.ofNat mb_63))]))
  by_cases hc304_99 : (Int32.ofNat mb_63) = (0 : Int32)
  · refine OGo.by (fun _ k => XS.ifNo X96.here hx rfl (hb hby at_304) rfl ((if0 _ _).trans (teq hc304_99).2) k) ?_
    show OGo p e below _ (T96.setTop (mkF m 307 #[.val (.long ja), .second, .val (.long jb), .second, .val (.int p2), .val (.int p3), .val (.int p4), .val (.ref b1), .val (.ref b7), .val (.ref b11), .val (.ref b18), .val (.ref b26), .val (.int (Int32.ofNat cn1)), .val (.int cpv), .val (.ref b35), .val (.int (Int32.ofNat cn2)), .val (.ref b45), .val (.ref b68), .val (.int (Int32.ofNat mb_63)), .unset, .unset, .unset] []))
    refine OGo.by (fun _ k => XS.iconst X96.here hx rfl (hb hby at_307) k) ?_
    show OGo p e below _ (T96.setTop (mkF m 308 #[.val (.long ja), .second, .val (.long jb), .second, .val (.int p2), .val (.int p3), .val (.int p4), .val (.ref b1), .val (.ref b7), .val (.ref b11), .val (.ref b18), .val (.ref b26), .val (.int (Int32.ofNat cn1)), .val (.int cpv), .val (.ref b35), .val (.int (Int32.ofNat cn2)), .val (.ref b45), .val (.ref b68), .val (.int (Int32.ofNat mb_63)), .unset, .unset, .unset] [(.int (1 : Int32))]))
    obtain ⟨fs, hr, hrun, hended, hW, hsame⟩ := X96.leave (v := some (.int (1 : Int32))) (fun h => by rw [Bd.returns] at h; cases h)
    refine OGo.ret (retN X96 hx (t := .boolean) Bd.returns (by simp) (hb hby at_308) hr) hrun hended ⟨_, _, rfl, ?_, ⟨_, rfl⟩, hW, hsame.mono (by decide) (by decide)⟩
    show Q_rm0 Z ja jb p2 p3 p4 h0 n0 _ T96.heap _
    rw [e96]
    exact ⟨rfl, N96⟩
  · refine OGo.by (fun _ k => XS.ifYes X96.here hx rfl (pc0 := 304) (pc' := 309) rfl (hb hby at_304) rfl ((if0 _ _).trans (feq hc304_99).2) (by decide) (by decide) k) ?_
    show OGo p e below _ (T96.setTop (mkF m 309 #[.val (.long ja), .second, .val (.long jb), .second, .val (.int p2), .val (.int p3), .val (.int p4), .val (.ref b1), .val (.ref b7), .val (.ref b11), .val (.ref b18), .val (.ref b26), .val (.int (Int32.ofNat cn1)), .val (.int cpv), .val (.ref b35), .val (.int (Int32.ofNat cn2)), .val (.ref b45), .val (.ref b68), .val (.int (Int32.ofNat mb_63)), .unset, .unset, .unset] []))
    refine OGo.by (fun _ k => XS.iload X96.here hx rfl (hb hby at_309) rfl k) ?_
    show OGo p e below _ (T96.setTop (mkF m 311 #[.val (.long ja), .second, .val (.long jb), .second, .val (.int p2), .val (.int p3), .val (.int p4), .val (.ref b1), .val (.ref b7), .val (.ref b11), .val (.ref b18), .val (.ref b26), .val (.int (Int32.ofNat cn1)), .val (.int cpv), .val (.ref b35), .val (.int (Int32.ofNat cn2)), .val (.ref b45), .val (.ref b68), .val (.int (Int32.ofNat mb_63)), .unset, .unset, .unset] [(.int p4)]))
    refine OGo.by (X96.ldcInt hx hown (mvT hZ (hw _ (List.mem_of_getElem? (i := 64) rfl))) (g := (mkF m 311 #[.val (.long ja), .second, .val (.long jb), .second, .val (.int p2), .val (.int p3), .val (.int p4), .val (.ref b1), .val (.ref b7), .val (.ref b11), .val (.ref b18), .val (.ref b26), .val (.int (Int32.ofNat cn1)), .val (.int cpv), .val (.ref b35), .val (.int (Int32.ofNat cn2)), .val (.ref b45), .val (.ref b68), .val (.int (Int32.ofNat mb_63)), .unset, .unset, .unset] [(.int p4)])) rfl (hb hby at_311)) ?_
    show OGo p e below _ (T96.setTop (mkF m 313 #[.val (.long ja), .second, .val (.long jb), .second, .val (.int p2), .val (.int p3), .val (.int p4), .val (.ref b1), .val (.ref b7), .val (.ref b11), .val (.ref b18), .val (.ref b26), .val (.int (Int32.ofNat cn1)), .val (.int cpv), .val (.ref b35), .val (.int (Int32.ofNat cn2)), .val (.ref b45), .val (.ref b68), .val (.int (Int32.ofNat mb_63)), .unset, .unset, .unset] [(.int (2147483647 : Int32)), (.int p4)]))
    refine OGo.by (fun _ k => XS.iand X96.here hx rfl (hb hby at_313) rfl k) ?_
    show OGo p e below _ (T96.setTop (mkF m 314 #[.val (.long ja), .second, .val (.long jb), .second, .val (.int p2), .val (.int p3), .val (.int p4), .val (.ref b1), .val (.ref b7), .val (.ref b11), .val (.ref b18), .val (.ref b26), .val (.int (Int32.ofNat cn1)), .val (.int cpv), .val (.ref b35), .val (.int (Int32.ofNat cn2)), .val (.ref b45), .val (.ref b68), .val (.int (Int32.ofNat mb_63)), .unset, .unset, .unset] [(.int (p4 &&& (2147483647 : Int32)))]))
    refine OGo.by (fun _ k => XS.iload X96.here hx rfl (hb hby at_314) rfl k) ?_
    show OGo p e below _ (T96.setTop (mkF m 316 #[.val (.long ja), .second, .val (.long jb), .second, .val (.int p2), .val (.int p3), .val (.int p4), .val (.ref b1), .val (.ref b7), .val (.ref b11), .val (.ref b18), .val (.ref b26), .val (.int (Int32.ofNat cn1)), .val (.int cpv), .val (.ref b35), .val (.int (Int32.ofNat cn2)), .val (.ref b45), .val (.ref b68), .val (.int (Int32.ofNat mb_63)), .unset, .unset, .unset] [(.int (Int32.ofNat mb_63)), (.int (p4 &&& (2147483647 : Int32)))]))
    refine OGo.by (fun _ k => iremM X96 hx rfl (hb hby at_316) rfl (fun q => hc304_99 q) k) ?_
    show OGo p e below _ (T96.setTop (mkF m 317 #[.val (.long ja), .second, .val (.long jb), .second, .val (.int p2), .val (.int p3), .val (.int p4), .val (.ref b1), .val (.ref b7), .val (.ref b11), .val (.ref b18), .val (.ref b26), .val (.int (Int32.ofNat cn1)), .val (.int cpv), .val (.ref b35), .val (.int (Int32.ofNat cn2)), .val (.ref b45), .val (.ref b68), .val (.int (Int32.ofNat mb_63)), .unset, .unset, .unset] [(.int ((p4 &&& (2147483647 : Int32)) % (Int32.ofNat mb_63)))]))
    have hmb4 : mb_63 ≤ 4 := by rw [G63_0.2.2.1]; exact Nat.le_trans (own_cnt_le _ _) hle_cn2
    obtain ⟨qq, hqq, eqq⟩ := own_rem p4 hc304_99 hmb4
    rw [eqq]
    show OGo p e below _ (T96.setTop (mkF m 317 #[.val (.long ja), .second, .val (.long jb), .second, .val (.int p2), .val (.int p3), .val (.int p4), .val (.ref b1), .val (.ref b7), .val (.ref b11), .val (.ref b18), .val (.ref b26), .val (.int (Int32.ofNat cn1)), .val (.int cpv), .val (.ref b35), .val (.int (Int32.ofNat cn2)), .val (.ref b45), .val (.ref b68), .val (.int (Int32.ofNat mb_63)), .unset, .unset, .unset] [(.int (Int32.ofNat qq))]))
    have hFF := own_Inv_first G63_0 hle_cn2 (own_M16 hcf) hqq
    have hld := own_ldr_lt (own_K lv2 lr) cn2 qq (by rw [← G63_0.2.2.1]; exact hqq)
    refine OGo.by (fun _ k => XS.istore X96.here hx rfl (hb hby at_317) rfl (l' := #[.val (.long ja), .second, .val (.long jb), .second, .val (.int p2), .val (.int p3), .val (.int p4), .val (.ref b1), .val (.ref b7), .val (.ref b11), .val (.ref b18), .val (.ref b26), .val (.int (Int32.ofNat cn1)), .val (.int cpv), .val (.ref b35), .val (.int (Int32.ofNat cn2)), .val (.ref b45), .val (.ref b68), .val (.int (Int32.ofNat mb_63)), .val (.int (Int32.ofNat qq)), .unset, .unset]) rfl k) ?_
    show OGo p e below _ (T96.setTop (mkF m 319 #[.val (.long ja), .second, .val (.long jb), .second, .val (.int p2), .val (.int p3), .val (.int p4), .val (.ref b1), .val (.ref b7), .val (.ref b11), .val (.ref b18), .val (.ref b26), .val (.int (Int32.ofNat cn1)), .val (.int cpv), .val (.ref b35), .val (.int (Int32.ofNat cn2)), .val (.ref b45), .val (.ref b68), .val (.int (Int32.ofNat mb_63)), .val (.int (Int32.ofNat qq)), .unset, .unset] []))
    refine OGo.by (fun _ k => XS.aload X96.here hx rfl (hb hby at_319) rfl rfl k) ?_
    show OGo p e below _ (T96.setTop (mkF m 321 #[.val (.long ja), .second, .val (.long jb), .second, .val (.int p2), .val (.int p3), .val (.int p4), .val (.ref b1), .val (.ref b7), .val (.ref b11), .val (.ref b18), .val (.ref b26), .val (.int (Int32.ofNat cn1)), .val (.int cpv), .val (.ref b35), .val (.int (Int32.ofNat cn2)), .val (.ref b45), .val (.ref b68), .val (.int (Int32.ofNat mb_63)), .val (.int (Int32.ofNat qq)), .unset, .unset] [(.ref b68)]))
    refine OGo.by (fun _ k => XS.iload X96.here hx rfl (hb hby at_321) rfl k) ?_
    show OGo p e below _ (T96.setTop (mkF m 323 #[.val (.long ja), .second, .val (.long jb), .second, .val (.int p2), .val (.int p3), .val (.int p4), .val (.ref b1), .val (.ref b7), .val (.ref b11), .val (.ref b18), .val (.ref b26), .val (.int (Int32.ofNat cn1)), .val (.int cpv), .val (.ref b35), .val (.int (Int32.ofNat cn2)), .val (.ref b45), .val (.ref b68), .val (.int (Int32.ofNat mb_63)), .val (.int (Int32.ofNat qq)), .unset, .unset] [(.int (Int32.ofNat cn2)), (.ref b68)]))
    refine OGo.by (fun _ k => XS.iload X96.here hx rfl (hb hby at_323) rfl k) ?_
    show OGo p e below _ (T96.setTop (mkF m 325 #[.val (.long ja), .second, .val (.long jb), .second, .val (.int p2), .val (.int p3), .val (.int p4), .val (.ref b1), .val (.ref b7), .val (.ref b11), .val (.ref b18), .val (.ref b26), .val (.int (Int32.ofNat cn1)), .val (.int cpv), .val (.ref b35), .val (.int (Int32.ofNat cn2)), .val (.ref b45), .val (.ref b68), .val (.int (Int32.ofNat mb_63)), .val (.int (Int32.ofNat qq)), .unset, .unset] [(.int (Int32.ofNat qq)), (.int (Int32.ofNat cn2)), (.ref b68)]))
    have H100 := Jvm.LawKit.callS X96 hx (y := (⟨"com/example/faces_into_crowds/facesintocrowds/BucketsFirstPinLaw", "leaderOf", "([III)I"⟩ : MethodName)) hown (mvT hZ (hw _ (List.mem_of_getElem? (i := 65) rfl))) (mvT hZ (hw _ (List.mem_of_getElem? (i := 66) rfl))) (mvT hZ (hw _ (List.mem_of_getElem? (i := 50) rfl))) (mvT hZ (hw _ (List.mem_of_getElem? (i := 67) rfl))) (by decide) (backOf (W := 0) (rm_lo l Z av0 hw [] b68 (Int32.ofNat cn2) (Int32.ofNat qq) k68 (own_K lv2 lr 0) (own_K lv2 lr 1) (own_K lv2 lr 2) (own_K lv2 lr 3) h94 n0 (Nat.le_trans Z0 K94.1) V94) hZ (hw _ (List.mem_of_getElem? (i := 67) rfl)) (hw _ (List.mem_of_getElem? (i := 50) rfl)) (by decide) (by decide)) (g := (mkF m 325 #[.val (.long ja), .second, .val (.long jb), .second, .val (.int p2), .val (.int p3), .val (.int p4), .val (.ref b1), .val (.ref b7), .val (.ref b11), .val (.ref b18), .val (.ref b26), .val (.int (Int32.ofNat cn1)), .val (.int cpv), .val (.ref b35), .val (.int (Int32.ofNat cn2)), .val (.ref b45), .val (.ref b68), .val (.int (Int32.ofNat mb_63)), .val (.int (Int32.ofNat qq)), .unset, .unset] [(.int (Int32.ofNat qq)), (.int (Int32.ofNat cn2)), (.ref b68)])) rfl (by rw [hml]; rfl) (argsL := [(.ref b68), (.int (Int32.ofNat cn2)), (.int (Int32.ofNat qq))]) (rest := []) (lenOf own_pd10 rfl) rfl (by show 2 * 0 + _ ≤ _; exact Nat.le_of_eq rfl) (hb hby at_325) (fun _ _ => ⟨rfl, e96, (by decide : 11 + 0 ≤ _), (by decide : 61 + 0 ≤ _)⟩)
    refine own_cpsP H100 (c' := 11) (s' := 61) rfl rfl N96 (r := (some (.int (own_lo (Int32.ofNat cn2) (Int32.ofNat qq) (own_K lv2 lr 0) (own_K lv2 lr 1) (own_K lv2 lr 2) (own_K lv2 lr 3))))) (h1 := h94) (fun _ _ _ q => q) ?_
    clear H100
    intro T100 L100 X100 N100 e100
    show OGo p e below _ (T100.setTop (mkF m 328 #[.val (.long ja), .second, .val (.long jb), .second, .val (.int p2), .val (.int p3), .val (.int p4), .val (.ref b1), .val (.ref b7), .val (.ref b11), .val (.ref b18), .val (.ref b26), .val (.int (Int32.ofNat cn1)), .val (.int cpv), .val (.ref b35), .val (.int (Int32.ofNat cn2)), .val (.ref b45), .val (.ref b68), .val (.int (Int32.ofNat mb_63)), .val (.int (Int32.ofNat qq)), .unset, .unset] [(.int (own_lo (Int32.ofNat cn2) (Int32.ofNat qq) (own_K lv2 lr 0) (own_K lv2 lr 1) (own_K lv2 lr 2) (own_K lv2 lr 3)))]))
    rw [own_loE (own_K lv2 lr) hle_cn2 (by omega)]
    show OGo p e below _ (T100.setTop (mkF m 328 #[.val (.long ja), .second, .val (.long jb), .second, .val (.int p2), .val (.int p3), .val (.int p4), .val (.ref b1), .val (.ref b7), .val (.ref b11), .val (.ref b18), .val (.ref b26), .val (.int (Int32.ofNat cn1)), .val (.int cpv), .val (.ref b35), .val (.int (Int32.ofNat cn2)), .val (.ref b45), .val (.ref b68), .val (.int (Int32.ofNat mb_63)), .val (.int (Int32.ofNat qq)), .unset, .unset] [(.int (Int32.ofNat (own_ldr (own_K lv2 lr) cn2 qq)))]))
    refine OGo.by (fun _ k => XS.istore X100.here hx rfl (hb hby at_328) rfl (l' := #[.val (.long ja), .second, .val (.long jb), .second, .val (.int p2), .val (.int p3), .val (.int p4), .val (.ref b1), .val (.ref b7), .val (.ref b11), .val (.ref b18), .val (.ref b26), .val (.int (Int32.ofNat cn1)), .val (.int cpv), .val (.ref b35), .val (.int (Int32.ofNat cn2)), .val (.ref b45), .val (.ref b68), .val (.int (Int32.ofNat mb_63)), .val (.int (Int32.ofNat qq)), .val (.int (Int32.ofNat (own_ldr (own_K lv2 lr) cn2 qq))), .unset]) rfl k) ?_
    show OGo p e below _ (T100.setTop (mkF m 330 #[.val (.long ja), .second, .val (.long jb), .second, .val (.int p2), .val (.int p3), .val (.int p4), .val (.ref b1), .val (.ref b7), .val (.ref b11), .val (.ref b18), .val (.ref b26), .val (.int (Int32.ofNat cn1)), .val (.int cpv), .val (.ref b35), .val (.int (Int32.ofNat cn2)), .val (.ref b45), .val (.ref b68), .val (.int (Int32.ofNat mb_63)), .val (.int (Int32.ofNat qq)), .val (.int (Int32.ofNat (own_ldr (own_K lv2 lr) cn2 qq))), .unset] []))
    refine OGo.by (fun _ k => XS.aload X100.here hx rfl (hb hby at_330) rfl rfl k) ?_
    show OGo p e below _ (T100.setTop (mkF m 332 #[.val (.long ja), .second, .val (.long jb), .second, .val (.int p2), .val (.int p3), .val (.int p4), .val (.ref b1), .val (.ref b7), .val (.ref b11), .val (.ref b18), .val (.ref b26), .val (.int (Int32.ofNat cn1)), .val (.int cpv), .val (.ref b35), .val (.int (Int32.ofNat cn2)), .val (.ref b45), .val (.ref b68), .val (.int (Int32.ofNat mb_63)), .val (.int (Int32.ofNat qq)), .val (.int (Int32.ofNat (own_ldr (own_K lv2 lr) cn2 qq))), .unset] [(.ref b68)]))
    refine OGo.by (fun _ k => XS.iload X100.here hx rfl (hb hby at_332) rfl k) ?_
    show OGo p e below _ (T100.setTop (mkF m 334 #[.val (.long ja), .second, .val (.long jb), .second, .val (.int p2), .val (.int p3), .val (.int p4), .val (.ref b1), .val (.ref b7), .val (.ref b11), .val (.ref b18), .val (.ref b26), .val (.int (Int32.ofNat cn1)), .val (.int cpv), .val (.ref b35), .val (.int (Int32.ofNat cn2)), .val (.ref b45), .val (.ref b68), .val (.int (Int32.ofNat mb_63)), .val (.int (Int32.ofNat qq)), .val (.int (Int32.ofNat (own_ldr (own_K lv2 lr) cn2 qq))), .unset] [(.int (Int32.ofNat cn2)), (.ref b68)]))
    refine OGo.by (fun _ k => XS.iload X100.here hx rfl (hb hby at_334) rfl k) ?_
    show OGo p e below _ (T100.setTop (mkF m 336 #[.val (.long ja), .second, .val (.long jb), .second, .val (.int p2), .val (.int p3), .val (.int p4), .val (.ref b1), .val (.ref b7), .val (.ref b11), .val (.ref b18), .val (.ref b26), .val (.int (Int32.ofNat cn1)), .val (.int cpv), .val (.ref b35), .val (.int (Int32.ofNat cn2)), .val (.ref b45), .val (.ref b68), .val (.int (Int32.ofNat mb_63)), .val (.int (Int32.ofNat qq)), .val (.int (Int32.ofNat (own_ldr (own_K lv2 lr) cn2 qq))), .unset] [(.int (Int32.ofNat (own_ldr (own_K lv2 lr) cn2 qq))), (.int (Int32.ofNat cn2)), (.ref b68)]))
    have H101 := Jvm.LawKit.callS X100 hx (y := (⟨"com/example/faces_into_crowds/facesintocrowds/BucketsFirstPinLaw", "lastWith", "([III)I"⟩ : MethodName)) hown (mvT hZ (hw _ (List.mem_of_getElem? (i := 68) rfl))) (mvT hZ (hw _ (List.mem_of_getElem? (i := 69) rfl))) (mvT hZ (hw _ (List.mem_of_getElem? (i := 50) rfl))) (mvT hZ (hw _ (List.mem_of_getElem? (i := 70) rfl))) (by decide) (backOf (W := 0) (rm_lw l Z av0 hw [] b68 (Int32.ofNat cn2) (Int32.ofNat (own_ldr (own_K lv2 lr) cn2 qq)) k68 [(own_K lv2 lr 0), (own_K lv2 lr 1), (own_K lv2 lr 2), (own_K lv2 lr 3)] h94 n0 (Nat.le_trans Z0 K94.1) V94 (own_in4 (Nat.lt_of_lt_of_le hld hle_cn2))) hZ (hw _ (List.mem_of_getElem? (i := 70) rfl)) (hw _ (List.mem_of_getElem? (i := 50) rfl)) (by decide) (by decide)) (g := (mkF m 336 #[.val (.long ja), .second, .val (.long jb), .second, .val (.int p2), .val (.int p3), .val (.int p4), .val (.ref b1), .val (.ref b7), .val (.ref b11), .val (.ref b18), .val (.ref b26), .val (.int (Int32.ofNat cn1)), .val (.int cpv), .val (.ref b35), .val (.int (Int32.ofNat cn2)), .val (.ref b45), .val (.ref b68), .val (.int (Int32.ofNat mb_63)), .val (.int (Int32.ofNat qq)), .val (.int (Int32.ofNat (own_ldr (own_K lv2 lr) cn2 qq))), .unset] [(.int (Int32.ofNat (own_ldr (own_K lv2 lr) cn2 qq))), (.int (Int32.ofNat cn2)), (.ref b68)])) rfl (by rw [hml]; rfl) (argsL := [(.ref b68), (.int (Int32.ofNat cn2)), (.int (Int32.ofNat (own_ldr (own_K lv2 lr) cn2 qq)))]) (rest := []) (lenOf own_pd10 rfl) rfl (by show 2 * 0 + _ ≤ _; exact Nat.le_of_eq rfl) (hb hby at_336) (fun _ _ => ⟨rfl, e100, (by decide : 11 + 0 ≤ _), (by decide : 61 + 0 ≤ _)⟩)
    refine own_cpsP H101 (c' := 11) (s' := 61) rfl rfl N100 (r := (some (.int (own_lw (Int32.ofNat cn2) (Int32.ofNat (own_ldr (own_K lv2 lr) cn2 qq)) [(own_K lv2 lr 0), (own_K lv2 lr 1), (own_K lv2 lr 2), (own_K lv2 lr 3)])))) (h1 := h94) (fun _ _ _ q => q) ?_
    clear H101
    intro T101 L101 X101 N101 e101
    show OGo p e below _ (T101.setTop (mkF m 339 #[.val (.long ja), .second, .val (.long jb), .second, .val (.int p2), .val (.int p3), .val (.int p4), .val (.ref b1), .val (.ref b7), .val (.ref b11), .val (.ref b18), .val (.ref b26), .val (.int (Int32.ofNat cn1)), .val (.int cpv), .val (.ref b35), .val (.int (Int32.ofNat cn2)), .val (.ref b45), .val (.ref b68), .val (.int (Int32.ofNat mb_63)), .val (.int (Int32.ofNat qq)), .val (.int (Int32.ofNat (own_ldr (own_K lv2 lr) cn2 qq))), .unset] [(.int (own_lw (Int32.ofNat cn2) (Int32.ofNat (own_ldr (own_K lv2 lr) cn2 qq)) [(own_K lv2 lr 0), (own_K lv2 lr 1), (own_K lv2 lr 2), (own_K lv2 lr 3)]))]))
    rw [own_lwE (own_K lv2 lr) hle_cn2 hld]
    show OGo p e below _ (T101.setTop (mkF m 339 #[.val (.long ja), .second, .val (.long jb), .second, .val (.int p2), .val (.int p3), .val (.int p4), .val (.ref b1), .val (.ref b7), .val (.ref b11), .val (.ref b18), .val (.ref b26), .val (.int (Int32.ofNat cn1)), .val (.int cpv), .val (.ref b35), .val (.int (Int32.ofNat cn2)), .val (.ref b45), .val (.ref b68), .val (.int (Int32.ofNat mb_63)), .val (.int (Int32.ofNat qq)), .val (.int (Int32.ofNat (own_ldr (own_K lv2 lr) cn2 qq))), .unset] [(.int (Int32.ofNat (own_last (own_K lv2 lr) cn2 (own_K lv2 lr (own_ldr (own_K lv2 lr) cn2 qq)))))]))
    refine OGo.by (fun _ k => XS.istore X101.here hx rfl (hb hby at_339) rfl (l' := #[.val (.long ja), .second, .val (.long jb), .second, .val (.int p2), .val (.int p3), .val (.int p4), .val (.ref b1), .val (.ref b7), .val (.ref b11), .val (.ref b18), .val (.ref b26), .val (.int (Int32.ofNat cn1)), .val (.int cpv), .val (.ref b35), .val (.int (Int32.ofNat cn2)), .val (.ref b45), .val (.ref b68), .val (.int (Int32.ofNat mb_63)), .val (.int (Int32.ofNat qq)), .val (.int (Int32.ofNat (own_ldr (own_K lv2 lr) cn2 qq))), .val (.int (Int32.ofNat (own_last (own_K lv2 lr) cn2 (own_K lv2 lr (own_ldr (own_K lv2 lr) cn2 qq)))))]) rfl k) ?_
    show OGo p e below _ (T101.setTop (mkF m 341 #[.val (.long ja), .second, .val (.long jb), .second, .val (.int p2), .val (.int p3), .val (.int p4), .val (.ref b1), .val (.ref b7), .val (.ref b11), .val (.ref b18), .val (.ref b26), .val (.int (Int32.ofNat cn1)), .val (.int cpv), .val (.ref b35), .val (.int (Int32.ofNat cn2)), .val (.ref b45), .val (.ref b68), .val (.int (Int32.ofNat mb_63)), .val (.int (Int32.ofNat qq)), .val (.int (Int32.ofNat (own_ldr (own_K lv2 lr) cn2 qq))), .val (.int (Int32.ofNat (own_last (own_K lv2 lr) cn2 (own_K lv2 lr (own_ldr (own_K lv2 lr) cn2 qq)))))] []))
    refine OGo.by (fun _ k => XS.aload X101.here hx rfl (hb hby at_341) rfl rfl k) ?_
    show OGo p e below _ (T101.setTop (mkF m 343 #[.val (.long ja), .second, .val (.long jb), .second, .val (.int p2), .val (.int p3), .val (.int p4), .val (.ref b1), .val (.ref b7), .val (.ref b11), .val (.ref b18), .val (.ref b26), .val (.int (Int32.ofNat cn1)), .val (.int cpv), .val (.ref b35), .val (.int (Int32.ofNat cn2)), .val (.ref b45), .val (.ref b68), .val (.int (Int32.ofNat mb_63)), .val (.int (Int32.ofNat qq)), .val (.int (Int32.ofNat (own_ldr (own_K lv2 lr) cn2 qq))), .val (.int (Int32.ofNat (own_last (own_K lv2 lr) cn2 (own_K lv2 lr (own_ldr (own_K lv2 lr) cn2 qq)))))] [(.ref b45)]))
    refine OGo.by (fun _ k => XS.iload X101.here hx rfl (hb hby at_343) rfl k) ?_
    show OGo p e below _ (T101.setTop (mkF m 345 #[.val (.long ja), .second, .val (.long jb), .second, .val (.int p2), .val (.int p3), .val (.int p4), .val (.ref b1), .val (.ref b7), .val (.ref b11), .val (.ref b18), .val (.ref b26), .val (.int (Int32.ofNat cn1)), .val (.int cpv), .val (.ref b35), .val (.int (Int32.ofNat cn2)), .val (.ref b45), .val (.ref b68), .val (.int (Int32.ofNat mb_63)), .val (.int (Int32.ofNat qq)), .val (.int (Int32.ofNat (own_ldr (own_K lv2 lr) cn2 qq))), .val (.int (Int32.ofNat (own_last (own_K lv2 lr) cn2 (own_K lv2 lr (own_ldr (own_K lv2 lr) cn2 qq)))))] [(.int (Int32.ofNat qq)), (.ref b45)]))
    have f103 : Fld Z h94 b45 "com/example/faces_into_crowds/facesintocrowds/Buckets" "mFirst" "[I" (.ref zf_51) := (((((G63_3.ext E68).other W79 (Or.inl ne_b45_b68)).other W84 (Or.inl ne_b45_b68)).other W89 (Or.inl ne_b45_b68)).other W94 (Or.inl ne_b45_b68))
    have f104 : Fld Z h94 b45 "com/example/faces_into_crowds/facesintocrowds/Buckets" "mSlots" "[I" (.ref zs_51) := (((((G63_4.ext E68).other W79 (Or.inl ne_b45_b68)).other W84 (Or.inl ne_b45_b68)).other W89 (Or.inl ne_b45_b68)).other W94 (Or.inl ne_b45_b68))
    have f105 : Arv Z h94 zf_51 kf_51 .int ml_51 (mF_63.map Value.int) (.int (0 : Int32)) := (((((G63_9.ext E68).other W79 ne_zf_51_b68).other W84 ne_zf_51_b68).other W89 ne_zf_51_b68).other W94 ne_zf_51_b68)
    have f106 : Arv Z h94 zs_51 ks_51 .int cpv (mS_63.map Value.int) (.int (0 : Int32)) := (((((G63_10.ext E68).other W79 ne_zs_51_b68).other W84 ne_zs_51_b68).other W89 ne_zs_51_b68).other W94 ne_zs_51_b68)
    obtain ⟨cq102, kq102, q102a, q102b, q102c⟩ := isOf hZ e101 f98
    have H102 := X101.virtualBack hx (y := (⟨"com/example/faces_into_crowds/facesintocrowds/Buckets", "first", "(I)I"⟩ : MethodName)) (z := (⟨"com/example/faces_into_crowds/facesintocrowds/Buckets", "first", "(I)I"⟩ : MethodName)) hown (mvT hZ (hw _ (List.mem_of_getElem? (i := 71) rfl))) (mvT hZ (hw _ (List.mem_of_getElem? (i := 72) rfl))) (notFace_of_selects (args := #[]) (mvT hZ (hw _ (List.mem_of_getElem? (i := 74) rfl)))) (mvT hZ (hw _ (List.mem_of_getElem? (i := 74) rfl))) (mvT hZ (hw _ (List.mem_of_getElem? (i := 73) rfl))) (by decide) (backOf (W := 0) (rm_fs l Z av0 hw [] b45 qq zf_51 zs_51 kf_51 ks_51 ml_51 cpv mF_63 mS_63 h94 n0 (Nat.le_trans Z0 K94.1) f103 f104 f105 f106 (own_inC hcf (by omega)) (by obtain ⟨j, h1, h2⟩ := hFF.1; rw [h2]; exact own_inM hcf h1) (by omega)) hZ (hw _ (List.mem_of_getElem? (i := 75) rfl)) (hw _ (List.mem_of_getElem? (i := 6) rfl)) (by decide) (by decide)) q102a q102c (g := (mkF m 345 #[.val (.long ja), .second, .val (.long jb), .second, .val (.int p2), .val (.int p3), .val (.int p4), .val (.ref b1), .val (.ref b7), .val (.ref b11), .val (.ref b18), .val (.ref b26), .val (.int (Int32.ofNat cn1)), .val (.int cpv), .val (.ref b35), .val (.int (Int32.ofNat cn2)), .val (.ref b45), .val (.ref b68), .val (.int (Int32.ofNat mb_63)), .val (.int (Int32.ofNat qq)), .val (.int (Int32.ofNat (own_ldr (own_K lv2 lr) cn2 qq))), .val (.int (Int32.ofNat (own_last (own_K lv2 lr) cn2 (own_K lv2 lr (own_ldr (own_K lv2 lr) cn2 qq)))))] [(.int (Int32.ofNat qq)), (.ref b45)])) rfl (by rw [hml]; rfl) (Steps.refl _) (argsL := [(.int (Int32.ofNat qq))]) (rest := []) (lenOf own_pd0 rfl) rfl (by show 2 * 0 + _ ≤ _; exact Nat.le_of_eq rfl) (hb hby at_345) (fun _ _ => ⟨rfl, e101, (by decide : 11 + 0 ≤ _), (by decide : 61 + 0 ≤ _)⟩)
    refine own_cpsP (own_cpsOf H102) (c' := 11) (s' := 61) rfl rfl N101 (r := (some (.int (mF_63.getD (mS_63.getD qq 0).toNatClampNeg 0)))) (h1 := h94) (fun _ _ _ q => q) ?_
    clear H102
    intro T102 L102 X102 N102 e102
    show OGo p e below _ (T102.setTop (mkF m 348 #[.val (.long ja), .second, .val (.long jb), .second, .val (.int p2), .val (.int p3), .val (.int p4), .val (.ref b1), .val (.ref b7), .val (.ref b11), .val (.ref b18), .val (.ref b26), .val (.int (Int32.ofNat cn1)), .val (.int cpv), .val (.ref b35), .val (.int (Int32.ofNat cn2)), .val (.ref b45), .val (.ref b68), .val (.int (Int32.ofNat mb_63)), .val (.int (Int32.ofNat qq)), .val (.int (Int32.ofNat (own_ldr (own_K lv2 lr) cn2 qq))), .val (.int (Int32.ofNat (own_last (own_K lv2 lr) cn2 (own_K lv2 lr (own_ldr (own_K lv2 lr) cn2 qq)))))] [(.int (mF_63.getD (mS_63.getD qq 0).toNatClampNeg 0))]))
    refine OGo.by (fun _ k => XS.iload X102.here hx rfl (hb hby at_348) rfl k) ?_
    show OGo p e below _ (T102.setTop (mkF m 350 #[.val (.long ja), .second, .val (.long jb), .second, .val (.int p2), .val (.int p3), .val (.int p4), .val (.ref b1), .val (.ref b7), .val (.ref b11), .val (.ref b18), .val (.ref b26), .val (.int (Int32.ofNat cn1)), .val (.int cpv), .val (.ref b35), .val (.int (Int32.ofNat cn2)), .val (.ref b45), .val (.ref b68), .val (.int (Int32.ofNat mb_63)), .val (.int (Int32.ofNat qq)), .val (.int (Int32.ofNat (own_ldr (own_K lv2 lr) cn2 qq))), .val (.int (Int32.ofNat (own_last (own_K lv2 lr) cn2 (own_K lv2 lr (own_ldr (own_K lv2 lr) cn2 qq)))))] [(.int (Int32.ofNat (own_last (own_K lv2 lr) cn2 (own_K lv2 lr (own_ldr (own_K lv2 lr) cn2 qq))))), (.int (mF_63.getD (mS_63.getD qq 0).toNatClampNeg 0))]))
    refine OGo.by (fun _ k => XS.icmpNo X102.here hx rfl (hb hby at_350) rfl (teq hFF.2).2 k) ?_
    show OGo p e below _ (T102.setTop (mkF m 353 #[.val (.long ja), .second, .val (.long jb), .second, .val (.int p2), .val (.int p3), .val (.int p4), .val (.ref b1), .val (.ref b7), .val (.ref b11), .val (.ref b18), .val (.ref b26), .val (.int (Int32.ofNat cn1)), .val (.int cpv), .val (.ref b35), .val (.int (Int32.ofNat cn2)), .val (.ref b45), .val (.ref b68), .val (.int (Int32.ofNat mb_63)), .val (.int (Int32.ofNat qq)), .val (.int (Int32.ofNat (own_ldr (own_K lv2 lr) cn2 qq))), .val (.int (Int32.ofNat (own_last (own_K lv2 lr) cn2 (own_K lv2 lr (own_ldr (own_K lv2 lr) cn2 qq)))))] []))
    refine OGo.by (fun _ k => XS.iconst X102.here hx rfl (hb hby at_353) k) ?_
    show OGo p e below _ (T102.setTop (mkF m 354 #[.val (.long ja), .second, .val (.long jb), .second, .val (.int p2), .val (.int p3), .val (.int p4), .val (.ref b1), .val (.ref b7), .val (.ref b11), .val (.ref b18), .val (.ref b26), .val (.int (Int32.ofNat cn1)), .val (.int cpv), .val (.ref b35), .val (.int (Int32.ofNat cn2)), .val (.ref b45), .val (.ref b68), .val (.int (Int32.ofNat mb_63)), .val (.int (Int32.ofNat qq)), .val (.int (Int32.ofNat (own_ldr (own_K lv2 lr) cn2 qq))), .val (.int (Int32.ofNat (own_last (own_K lv2 lr) cn2 (own_K lv2 lr (own_ldr (own_K lv2 lr) cn2 qq)))))] [(.int (1 : Int32))]))
    refine OGo.by (fun _ k => XS.goto X102.here hx rfl (pc0 := 354) (pc' := 358) rfl (hb hby at_354) (by decide) (by decide) k) ?_
    show OGo p e below _ (T102.setTop (mkF m 358 #[.val (.long ja), .second, .val (.long jb), .second, .val (.int p2), .val (.int p3), .val (.int p4), .val (.ref b1), .val (.ref b7), .val (.ref b11), .val (.ref b18), .val (.ref b26), .val (.int (Int32.ofNat cn1)), .val (.int cpv), .val (.ref b35), .val (.int (Int32.ofNat cn2)), .val (.ref b45), .val (.ref b68), .val (.int (Int32.ofNat mb_63)), .val (.int (Int32.ofNat qq)), .val (.int (Int32.ofNat (own_ldr (own_K lv2 lr) cn2 qq))), .val (.int (Int32.ofNat (own_last (own_K lv2 lr) cn2 (own_K lv2 lr (own_ldr (own_K lv2 lr) cn2 qq)))))] [(.int (1 : Int32))]))
    obtain ⟨fs, hr, hrun, hended, hW, hsame⟩ := X102.leave (v := some (.int (1 : Int32))) (fun h => by rw [Bd.returns] at h; cases h)
    refine OGo.ret (retN X102 hx (t := .boolean) Bd.returns (by simp) (hb hby at_358) hr) hrun hended ⟨_, _, rfl, ?_, ⟨_, rfl⟩, hW, hsame.mono (by decide) (by decide)⟩
    show Q_rm0 Z ja jb p2 p3 p4 h0 n0 _ T102.heap _
    rw [e102]
    exact ⟨rfl, N102⟩
set_option maxRecDepth 65536 in
set_option maxHeartbeats 40000000 in
theorem comes_1 {Post : Tables → Env → Array Value → State → Outcome → State → Prop} (hpost : ∀ tb e args s v u, (limb_1_1.after args s (.returned v) u = true ∧ limb_1_2.after args s (.returned v) u = true ∧ True) → FrameEnd s (.returned v) u (Jvm.fieldLocs frame_1_writes args s ++ Jvm.arrayLocs frame_1_arrays args s ++ Jvm.staticLocs frame_1_statics s) 32 192 → Post tb e args s (.returned v) u) :
    ArmFor flags0 classFile x code maxLocals ret World_1 tables_1 room_1 Calls_1 rest_1 Pre_1 Post := by
  intro l hfl _ _ p e ha hc hk s m args below hf hA hF happ hP
  obtain ⟨hcalls, hrest, hpre⟩ := hP
  obtain ⟨-, -, -, hnamed, -, -, -, hat⟩ := (Spec.applies_iff hf).mp happ
  obtain ⟨hg, hn⟩ := and_e (Cond.before_iff.mp (show (Jvm.Cond.and given_1 narrow_1).before args s = true from hpre))
  obtain ⟨hg0, hgr⟩ := and_e hg
  obtain ⟨hv0, hgr0⟩ := and_e hgr
  obtain ⟨hv1, hgr1⟩ := and_e hgr0
  obtain ⟨hv2, hgr2⟩ := and_e hgr1
  obtain ⟨hv3, hgr3⟩ := and_e hgr2
  obtain ⟨w0, w1, w2, w3, w4, rfl⟩ : ∃ w0 w1 w2 w3 w4 : Value, args = #[w0, w1, w2, w3, w4] := by
    have hs : args.size = 5 := by simpa [Cond.value, given_1] using hg0
    obtain ⟨L⟩ := args
    match L, hs with
    | [w0, w1, w2, w3, w4], _ => exact ⟨w0, w1, w2, w3, w4, rfl⟩
  have hw := fun d (hd : d ∈ tables_1) => atoms_spec (ws := Jvm.Cond.code x code maxLocals ret :: tables_1) hat d (List.mem_cons_of_mem _ hd)
  have hfit : Fit s := fun {y c} hc i hi => by
    obtain ⟨ha, rfl⟩ := Array.getElem?_eq_some_iff.mp hc
    have q := List.all_eq_true.mp ((Array.all_eq_true_iff_forall_mem.mp hF) _ (Array.getElem_mem ha)) i (List.mem_range.mpr hi)
    simpa [Array.getElem?_eq_getElem hi] using q
  obtain ⟨i0, ei0⟩ := isL_v hv0
  obtain rfl : w0 = (.long i0) := Option.some.inj ei0
  obtain ⟨i1, ei1⟩ := isL_v hv1
  obtain rfl : w1 = (.long i1) := Option.some.inj ei1
  obtain ⟨i2, ei2⟩ := is_v hv2
  obtain rfl : w2 = (.int i2) := Option.some.inj ei2
  obtain ⟨i3, ei3⟩ := is_v hv3
  obtain rfl : w3 = (.int i3) := Option.some.inj ei3
  obtain ⟨i4, ei4⟩ := is_v hgr3
  obtain rfl : w4 = (.int i4) := Option.some.inj ei4
  obtain ⟨n, o, h1, h2, h3, _, L, rfl, ⟨rfl, N⟩, hq⟩ := rm0 l s _ hw tables_1 i0 i1 i2 i3 i4 s.heap s.heap.size (Nat.le_refl _)  p e ha hc hk s m _ below hf ((Spec.applies_iff_loose hf).mp happ).1 ⟨rfl, State.Warmed39.refl s, rfl⟩ trivial
  refine ⟨n, _, h1, h2, h3, hpost _ _ _ _ _ _ ⟨Cond.after_iff.mpr rfl, Cond.after_iff.mpr (eq_i res_at (Term.int_eval (1)) rfl), trivial⟩ ⟨hq.1, hq.2.1, (hq.2.2.sift fun y hy => Or.inr (N y hy)).mono (by decide) (by decide)⟩⟩
theorem main_1_1 : Claimed_1_1 := comes_1 fun _ _ _ _ _ _ h hF => ⟨h.1, hF⟩
theorem main_1_2 : Claimed_1_2 := comes_1 fun _ _ _ _ _ _ h hF => ⟨h.2.1, hF⟩
end Jvm.Pilot.@@N@@
namespace Jvm.Pilot.@@N@@
open Jvm Jvm.ClassFile Sem Op Lib Jvm.Free Jvm.Stand Jvm.Pilot.@@N@@.Jvm.D
/-! MADE BY PROGRAM (witnessworld.py) out of the Statement's table words and the real class files: 17 classes; the members and pool entries that the words name. The judged class is class 1, her method 5. -/
namespace start1
open Jvm.ClassFile
def u (s : String) : CpInfo := .utf8 (stringToUtf16 s)
/-- a pool by its gaps: so many unusable entries, then the entry; so many at the end -/
def gap : Nat → List CpInfo → List CpInfo
  | 0, r => r
  | n + 1, r => .unusable :: gap n r
def poolList (es : List (Nat × CpInfo)) (last : Nat) : List CpInfo := es.foldr (fun e r => gap e.1 (e.2 :: r)) (gap last [])
def pool (es : List (Nat × CpInfo)) (last : Nat) : Array CpInfo := ⟨poolList es last⟩
def fileOf (pool : Array CpInfo) (this : Nat) (attrs : Array Attribute := #[]) (ms : Array MethodInfo := #[]) (fl : Nat := 33) (sup : Nat := 0) (ifs : Array Nat := #[]) (fds : Array FieldInfo := #[]) : ClassFile where
  minorVersion := 0
  majorVersion := 65
  constantPool := pool
  accessFlags := fl
  thisClass := this
  superClass := sup
  interfaces := ifs
  fields := fds
  methods := ms
  attributes := attrs
def plain (name : String) (sup : Option ClassId) : Class where
  name := name
  kind := .ordinary
  loader := none
  accessFlags := 33
  super := sup
  interfaces := #[]
  cf := none
  fields := #[]
  methods := #[]
  instanceTypes := #[]
  staticTypes := #[]
  resolved := #[]
  callSites := []
  init := .initialized
  statics := none
  mirror := none

def pool0 : Array CpInfo := pool [(5, u "<init>"), (0, u "()V"), (1, .class_ 10), (1, u "java/lang/Object")] 113

def k0c0 : Code := { maxStack := 0, maxLocals := 1, code := object_method_1_code, exceptionTable := #[], attributes := #[] }
def k0m0 : Method := { name := "<init>", desc := "()V", sig := { parameters := [], returnType := none }, accessFlags := 1, code := some k0c0 }
/-- java/lang/Object -/
def k0 : Class := { plain "java/lang/Object" none with
  accessFlags := 33
  interfaces := #[]
  cf := some (fileOf pool0 8 #[] #[{ accessFlags := 1, nameIndex := 5, descriptorIndex := 6, attributes := #[] }] 33 0 #[] #[])
  fields := #[]
  methods := #[k0m0]
  instanceTypes := #[]
  staticTypes := #[]
  resolved := Array.replicate 124 none
  statics := none }

def pool1 : Array CpInfo := pool [(2, .class_ 4), (1, u "java/lang/Object"), (0, u "<init>"), (0, u "()V"), (0, .methodref 8 9), (0, .class_ 10), (0, .nameAndType 11 12), (0, u "com/example/faces_into_crowds/facesintocrowds/BucketsFirstPinLaw"), (0, u "fresh"), (0, u "([II)Z"), (0, .class_ 14), (0, u "[I"), (0, .class_ 16), (0, u "com/example/faces_into_crowds/facesintocrowds/Buckets"), (0, .methodref 15 18), (0, .nameAndType 5 19), (0, u "(I)V"), (0, .methodref 15 21), (0, .nameAndType 22 23), (0, u "sort"), (0, u "([II[I[[I)V"), (0, .methodref 8 25), (0, .nameAndType 26 27), (0, u "bucketCount"), (0, u "([II)I"), (0, .methodref 15 29), (0, .nameAndType 30 31), (0, u "count"), (0, u "()I"), (0, .integer 2147483647), (0, .methodref 8 34), (0, .nameAndType 35 36), (0, u "leaderOf"), (0, u "([III)I"), (0, .methodref 8 38), (0, .nameAndType 39 36), (0, u "lastWith"), (0, .methodref 15 41), (0, .nameAndType 42 43), (0, u "first"), (0, u "(I)I"), (3, u "law"), (0, u "(JJIII)Z")] 4

def k1m0 : Method := { name := "<init>", desc := "()V", sig := { parameters := [], returnType := none }, accessFlags := 1, code := none }
def k1c1 : Code := { maxStack := 3, maxLocals := 2, code := method_2_code, exceptionTable := #[], attributes := #[] }
def k1m1 : Method := { name := "fresh", desc := "([II)Z", sig := { parameters := [(.array .int), .int], returnType := some .boolean }, accessFlags := 10, code := some k1c1 }
def k1c2 : Code := { maxStack := 2, maxLocals := 3, code := method_3_code, exceptionTable := #[], attributes := #[] }
def k1m2 : Method := { name := "bucketCount", desc := "([II)I", sig := { parameters := [(.array .int), .int], returnType := some .int }, accessFlags := 10, code := some k1c2 }
def k1c3 : Code := { maxStack := 2, maxLocals := 5, code := method_4_code, exceptionTable := #[], attributes := #[] }
def k1m3 : Method := { name := "leaderOf", desc := "([III)I", sig := { parameters := [(.array .int), .int, .int], returnType := some .int }, accessFlags := 10, code := some k1c3 }
def k1c4 : Code := { maxStack := 3, maxLocals := 4, code := method_5_code, exceptionTable := #[], attributes := #[] }
def k1m4 : Method := { name := "lastWith", desc := "([III)I", sig := { parameters := [(.array .int), .int, .int], returnType := some .int }, accessFlags := 10, code := some k1c4 }
def k1c5 : Code := { maxStack := 6, maxLocals := 22, code := code, exceptionTable := #[], attributes := #[] }
def k1m5 : Method := { name := "law", desc := "(JJIII)Z", sig := { parameters := [.long, .long, .int, .int, .int], returnType := some .boolean }, accessFlags := 9, code := some k1c5 }
/-- com/example/faces_into_crowds/facesintocrowds/BucketsFirstPinLaw -/
def k1 : Class := { plain "com/example/faces_into_crowds/facesintocrowds/BucketsFirstPinLaw" (some 0) with
  accessFlags := 49
  interfaces := #[]
  cf := some (fileOf pool1 8 #[] #[{ accessFlags := 1, nameIndex := 5, descriptorIndex := 6, attributes := #[] }, { accessFlags := 10, nameIndex := 11, descriptorIndex := 12, attributes := #[] }, { accessFlags := 10, nameIndex := 26, descriptorIndex := 27, attributes := #[] }, { accessFlags := 10, nameIndex := 35, descriptorIndex := 36, attributes := #[] }, { accessFlags := 10, nameIndex := 39, descriptorIndex := 36, attributes := #[] }, { accessFlags := 9, nameIndex := 47, descriptorIndex := 48, attributes := #[] }] 49 2 #[] #[])
  fields := #[]
  methods := #[k1m0, k1m1, k1m2, k1m3, k1m4, k1m5]
  instanceTypes := #[]
  staticTypes := #[]
  resolved := Array.replicate 53 none
  statics := none }

def pool2 : Array CpInfo := pool [(1, .methodref 2 3), (0, .class_ 4), (0, .nameAndType 5 6), (0, u "java/lang/Object"), (0, u "<init>"), (0, u "()V"), (0, .long 2), (1, .methodref 10 11), (0, .class_ 12), (0, .nameAndType 13 14), (0, u "java/lang/Math"), (0, u "max"), (0, u "(JJ)J"), (0, .methodref 16 17), (0, .class_ 18), (0, .nameAndType 19 20), (0, u "java/lang/Long"), (0, u "numberOfLeadingZeros"), (0, u "(J)I"), (0, .fieldref 22 23), (0, .class_ 24), (0, .nameAndType 25 26), (0, u "com/example/faces_into_crowds/facesintocrowds/Buckets"), (0, u "mFirst"), (0, u "[I"), (0, .methodref 28 29), (0, .class_ 30), (0, .nameAndType 31 32), (0, u "java/util/Arrays"), (0, u "fill"), (0, u "([II)V"), (0, .fieldref 22 34), (0, .nameAndType 35 26), (0, u "mNext"), (0, .fieldref 22 37), (0, .nameAndType 38 26), (0, u "mSlots"), (0, .fieldref 22 40), (0, .nameAndType 41 42), (0, u "mShift"), (0, u "I"), (0, .fieldref 22 44), (0, .nameAndType 45 42), (0, u "mBuckets"), (0, .fieldref 22 47), (0, .nameAndType 48 26), (0, u "mUnits"), (0, .long 11400714819323198485), (1, .methodref 22 52), (0, .nameAndType 53 54), (0, u "alike"), (0, u "(II[I[[I)Z"), (0, u "SPREAD"), (0, u "J"), (1, u "(I)V"), (2, u "sort"), (0, u "([II[I[[I)V"), (4, u "count"), (0, u "()I"), (0, u "first"), (0, u "(I)I")] 4

def k2c0 : Code := { maxStack := 7, maxLocals := 3, code := prog_1_method_1_code, exceptionTable := #[], attributes := #[] }
def k2m0 : Method := { name := "<init>", desc := "(I)V", sig := { parameters := [.int], returnType := none }, accessFlags := 0, code := some k2c0 }
def k2c1 : Code := { maxStack := 6, maxLocals := 11, code := prog_1_method_2_code, exceptionTable := #[], attributes := #[] }
def k2m1 : Method := { name := "sort", desc := "([II[I[[I)V", sig := { parameters := [(.array .int), .int, (.array .int), (.array (.array .int))], returnType := none }, accessFlags := 0, code := some k2c1 }
def k2c2 : Code := { maxStack := 1, maxLocals := 1, code := prog_1_method_3_code, exceptionTable := #[], attributes := #[] }
def k2m2 : Method := { name := "count", desc := "()I", sig := { parameters := [], returnType := some .int }, accessFlags := 0, code := some k2c2 }
def k2c3 : Code := { maxStack := 3, maxLocals := 2, code := prog_1_method_4_code, exceptionTable := #[], attributes := #[] }
def k2m3 : Method := { name := "first", desc := "(I)I", sig := { parameters := [.int], returnType := some .int }, accessFlags := 0, code := some k2c3 }
def k2c4 : Code := { maxStack := 5, maxLocals := 7, code := prog_1_method_7_code, exceptionTable := #[], attributes := #[] }
def k2m4 : Method := { name := "alike", desc := "(II[I[[I)Z", sig := { parameters := [.int, .int, (.array .int), (.array (.array .int))], returnType := some .boolean }, accessFlags := 10, code := some k2c4 }
/-- com/example/faces_into_crowds/facesintocrowds/Buckets -/
def k2 : Class := { plain "com/example/faces_into_crowds/facesintocrowds/Buckets" (some 0) with
  accessFlags := 48
  interfaces := #[]
  cf := some (fileOf pool2 22 #[] #[{ accessFlags := 0, nameIndex := 5, descriptorIndex := 58, attributes := #[] }, { accessFlags := 0, nameIndex := 61, descriptorIndex := 62, attributes := #[] }, { accessFlags := 0, nameIndex := 67, descriptorIndex := 68, attributes := #[] }, { accessFlags := 0, nameIndex := 69, descriptorIndex := 70, attributes := #[] }, { accessFlags := 10, nameIndex := 53, descriptorIndex := 54, attributes := #[] }] 48 2 #[] #[{ accessFlags := 26, nameIndex := 55, descriptorIndex := 56, attributes := #[] }, { accessFlags := 18, nameIndex := 25, descriptorIndex := 26, attributes := #[] }, { accessFlags := 18, nameIndex := 35, descriptorIndex := 26, attributes := #[] }, { accessFlags := 18, nameIndex := 38, descriptorIndex := 26, attributes := #[] }, { accessFlags := 18, nameIndex := 41, descriptorIndex := 42, attributes := #[] }, { accessFlags := 2, nameIndex := 48, descriptorIndex := 26, attributes := #[] }, { accessFlags := 2, nameIndex := 45, descriptorIndex := 42, attributes := #[] }])
  fields := #[{ name := "SPREAD", type := .long, accessFlags := 26, slot := 0, constantValue := 0 }, { name := "mFirst", type := (.array .int), accessFlags := 18, slot := 0, constantValue := 0 }, { name := "mNext", type := (.array .int), accessFlags := 18, slot := 1, constantValue := 0 }, { name := "mSlots", type := (.array .int), accessFlags := 18, slot := 2, constantValue := 0 }, { name := "mShift", type := .int, accessFlags := 18, slot := 3, constantValue := 0 }, { name := "mUnits", type := (.array .int), accessFlags := 2, slot := 4, constantValue := 0 }, { name := "mBuckets", type := .int, accessFlags := 2, slot := 5, constantValue := 0 }]
  methods := #[k2m0, k2m1, k2m2, k2m3, k2m4]
  instanceTypes := #[(.array .int), (.array .int), (.array .int), .int, (.array .int), .int]
  staticTypes := #[.long]
  resolved := Array.replicate 75 none
  statics := none }

def pool3 : Array CpInfo := pool [(1, .class_ 2), (0, u "java/lang/Math"), (1, .class_ 6), (1, u "java/lang/Object"), (0, u "<init>"), (0, u "()V"), (89, .class_ 100), (1, u "java/lang/Math$RandomNumberGeneratorHolder"), (20, u "(JJ)J"), (50, u "negativeZeroFloatBits"), (0, u "J"), (2, u "negativeZeroDoubleBits"), (21, u "max"), (46, u "$assertionsDisabled"), (0, u "Z"), (91, u "twoToTheDoubleScaleDown"), (0, u "D"), (4, u "twoToTheDoubleScaleUp"), (9, u "E"), (3, u "PI"), (2, u "TAU"), (2, u "DEGREES_TO_RADIANS"), (0, u "RADIANS_TO_DEGREES")] 94

def k3m0 : Method := { name := "<init>", desc := "()V", sig := { parameters := [], returnType := none }, accessFlags := 2, code := none }
def k3c1 : Code := { maxStack := 4, maxLocals := 4, code := jdk_29_method_66_code, exceptionTable := #[], attributes := #[] }
def k3m1 : Method := { name := "max", desc := "(JJ)J", sig := { parameters := [.long, .long], returnType := some .long }, accessFlags := 9, code := some k3c1 }
/-- java/lang/Math -/
def k3 : Class := { plain "java/lang/Math" (some 0) with
  accessFlags := 49
  interfaces := #[]
  cf := some (fileOf pool3 1 #[.nestMembers #[98]] #[{ accessFlags := 2, nameIndex := 7, descriptorIndex := 8, attributes := #[] }, { accessFlags := 9, nameIndex := 198, descriptorIndex := 121, attributes := #[] }] 49 4 #[] #[{ accessFlags := 25, nameIndex := 354, descriptorIndex := 339, attributes := #[] }, { accessFlags := 25, nameIndex := 358, descriptorIndex := 339, attributes := #[] }, { accessFlags := 25, nameIndex := 361, descriptorIndex := 339, attributes := #[] }, { accessFlags := 26, nameIndex := 364, descriptorIndex := 339, attributes := #[] }, { accessFlags := 26, nameIndex := 365, descriptorIndex := 339, attributes := #[] }, { accessFlags := 26, nameIndex := 172, descriptorIndex := 173, attributes := #[] }, { accessFlags := 26, nameIndex := 176, descriptorIndex := 173, attributes := #[] }, { accessFlags := 8, nameIndex := 344, descriptorIndex := 339, attributes := #[] }, { accessFlags := 8, nameIndex := 338, descriptorIndex := 339, attributes := #[] }, { accessFlags := 4120, nameIndex := 245, descriptorIndex := 246, attributes := #[] }])
  fields := #[{ name := "E", type := .double, accessFlags := 25, slot := 0, constantValue := 0 }, { name := "PI", type := .double, accessFlags := 25, slot := 1, constantValue := 0 }, { name := "TAU", type := .double, accessFlags := 25, slot := 2, constantValue := 0 }, { name := "DEGREES_TO_RADIANS", type := .double, accessFlags := 26, slot := 3, constantValue := 0 }, { name := "RADIANS_TO_DEGREES", type := .double, accessFlags := 26, slot := 4, constantValue := 0 }, { name := "negativeZeroFloatBits", type := .long, accessFlags := 26, slot := 5, constantValue := 0 }, { name := "negativeZeroDoubleBits", type := .long, accessFlags := 26, slot := 6, constantValue := 0 }, { name := "twoToTheDoubleScaleUp", type := .double, accessFlags := 8, slot := 7, constantValue := 0 }, { name := "twoToTheDoubleScaleDown", type := .double, accessFlags := 8, slot := 8, constantValue := 0 }, { name := "$assertionsDisabled", type := .boolean, accessFlags := 4120, slot := 9, constantValue := 0 }]
  methods := #[k3m0, k3m1]
  instanceTypes := #[]
  staticTypes := #[.double, .double, .double, .double, .double, .long, .long, .double, .double, .boolean]
  resolved := Array.replicate 460 none
  statics := none }

def pool4 : Array CpInfo := pool [(1, .class_ 2), (0, u "java/io/Serializable"), (0, .class_ 4), (0, u "java/lang/Object")] 2

/-- java/io/Serializable -/
def k4 : Class := { plain "java/io/Serializable" (some 0) with
  accessFlags := 1537
  interfaces := #[]
  cf := some (fileOf pool4 1 #[] #[] 1537 3 #[] #[])
  fields := #[]
  methods := #[]
  instanceTypes := #[]
  staticTypes := #[]
  resolved := Array.replicate 7 none
  statics := none }

def pool5 : Array CpInfo := pool [(2, .class_ 4), (1, u "java/lang/Object"), (0, u "<init>"), (0, u "()V"), (1, .class_ 10), (1, u "java/lang/Number"), (2, .class_ 14), (0, u "java/io/Serializable"), (0, u "serialVersionUID"), (0, u "J")] 20

def k5m0 : Method := { name := "<init>", desc := "()V", sig := { parameters := [], returnType := none }, accessFlags := 1, code := none }
/-- java/lang/Number -/
def k5 : Class := { plain "java/lang/Number" (some 0) with
  accessFlags := 1057
  interfaces := #[4]
  cf := some (fileOf pool5 8 #[] #[{ accessFlags := 1, nameIndex := 5, descriptorIndex := 6, attributes := #[] }] 1057 2 #[13] #[{ accessFlags := 26, nameIndex := 15, descriptorIndex := 16, attributes := #[] }])
  fields := #[{ name := "serialVersionUID", type := .long, accessFlags := 26, slot := 0, constantValue := 0 }]
  methods := #[k5m0]
  instanceTypes := #[]
  staticTypes := #[.long]
  resolved := Array.replicate 37 none
  statics := none }

def pool6 : Array CpInfo := pool [(1, .class_ 2), (0, u "java/lang/Comparable"), (0, .class_ 4), (0, u "java/lang/Object")] 7

/-- java/lang/Comparable -/
def k6 : Class := { plain "java/lang/Comparable" (some 0) with
  accessFlags := 1537
  interfaces := #[]
  cf := some (fileOf pool6 1 #[] #[] 1537 3 #[] #[])
  fields := #[]
  methods := #[]
  instanceTypes := #[]
  staticTypes := #[]
  resolved := Array.replicate 12 none
  statics := none }

def pool7 : Array CpInfo := pool [(1, .class_ 2), (0, u "java/lang/constant/Constable"), (0, .class_ 4), (0, u "java/lang/Object")] 6

/-- java/lang/constant/Constable -/
def k7 : Class := { plain "java/lang/constant/Constable" (some 0) with
  accessFlags := 1537
  interfaces := #[]
  cf := some (fileOf pool7 1 #[] #[] 1537 3 #[] #[])
  fields := #[]
  methods := #[]
  instanceTypes := #[]
  staticTypes := #[]
  resolved := Array.replicate 11 none
  statics := none }

def pool8 : Array CpInfo := pool [(1, .class_ 2), (0, u "java/lang/constant/ConstantDesc"), (0, .class_ 4), (0, u "java/lang/Object")] 32

/-- java/lang/constant/ConstantDesc -/
def k8 : Class := { plain "java/lang/constant/ConstantDesc" (some 0) with
  accessFlags := 1537
  interfaces := #[]
  cf := some (fileOf pool8 1 #[] #[] 1537 3 #[] #[])
  fields := #[]
  methods := #[]
  instanceTypes := #[]
  staticTypes := #[]
  resolved := Array.replicate 37 none
  statics := none }

def pool9 : Array CpInfo := pool [(1, .class_ 2), (0, u "java/lang/Long"), (15, .class_ 20), (1, u "java/lang/Integer"), (79, u "numberOfLeadingZeros"), (0, u "(J)I"), (133, .class_ 237), (1, u "java/lang/Long$LongCache"), (33, .class_ 272), (0, u "java/lang/Number"), (2, u "value"), (0, u "J"), (31, .methodref 18 309), (0, .nameAndType 100 310), (0, u "(I)I"), (50, u "TYPE"), (0, u "Ljava/lang/Class;"), (0, .class_ 364), (0, u "java/lang/Comparable"), (0, .class_ 366), (0, u "java/lang/constant/Constable"), (0, .class_ 368), (0, u "java/lang/constant/ConstantDesc"), (0, u "MIN_VALUE"), (1, u "MAX_VALUE"), (4, u "SIZE"), (0, u "I"), (1, u "BYTES"), (1, u "serialVersionUID")] 142

def k9c0 : Code := { maxStack := 3, maxLocals := 3, code := jdk_35_method_48_code, exceptionTable := #[], attributes := #[] }
def k9m0 : Method := { name := "numberOfLeadingZeros", desc := "(J)I", sig := { parameters := [.long], returnType := some .int }, accessFlags := 9, code := some k9c0 }
/-- java/lang/Long -/
def k9 : Class := { plain "java/lang/Long" (some 5) with
  accessFlags := 49
  interfaces := #[6, 7, 8]
  cf := some (fileOf pool9 1 #[.nestMembers #[235]] #[{ accessFlags := 9, nameIndex := 100, descriptorIndex := 101, attributes := #[] }] 49 271 #[363, 365, 367] #[{ accessFlags := 25, nameIndex := 369, descriptorIndex := 276, attributes := #[] }, { accessFlags := 25, nameIndex := 371, descriptorIndex := 276, attributes := #[] }, { accessFlags := 25, nameIndex := 361, descriptorIndex := 362, attributes := #[] }, { accessFlags := 18, nameIndex := 275, descriptorIndex := 276, attributes := #[] }, { accessFlags := 25, nameIndex := 376, descriptorIndex := 377, attributes := #[] }, { accessFlags := 25, nameIndex := 379, descriptorIndex := 377, attributes := #[] }, { accessFlags := 26, nameIndex := 381, descriptorIndex := 276, attributes := #[] }])
  fields := #[{ name := "MIN_VALUE", type := .long, accessFlags := 25, slot := 0, constantValue := 0 }, { name := "MAX_VALUE", type := .long, accessFlags := 25, slot := 1, constantValue := 0 }, { name := "TYPE", type := (.object "java/lang/Class"), accessFlags := 25, slot := 2, constantValue := 0 }, { name := "value", type := .long, accessFlags := 18, slot := 0, constantValue := 0 }, { name := "SIZE", type := .int, accessFlags := 25, slot := 3, constantValue := 0 }, { name := "BYTES", type := .int, accessFlags := 25, slot := 4, constantValue := 0 }, { name := "serialVersionUID", type := .long, accessFlags := 26, slot := 5, constantValue := 0 }]
  methods := #[k9m0]
  instanceTypes := #[.long]
  staticTypes := #[.long, .long, (.object "java/lang/Class"), .int, .int, .long]
  resolved := Array.replicate 524 none
  statics := none }

def pool10 : Array CpInfo := pool [(1, .class_ 2), (0, u "java/lang/Integer"), (16, u "digits"), (0, u "[C"), (32, u "numberOfLeadingZeros"), (0, u "(I)I"), (30, u "DigitOnes"), (0, u "[B"), (2, u "DigitTens"), (99, .class_ 190), (0, u "java/lang/Integer$IntegerCache"), (3, u "I"), (8, .class_ 204), (0, u "java/lang/Number"), (2, u "value"), (56, .integer 65536), (37, u "TYPE"), (0, u "Ljava/lang/Class;"), (0, .class_ 305), (0, u "java/lang/Comparable"), (0, .class_ 307), (0, u "java/lang/constant/Constable"), (0, .class_ 309), (0, u "java/lang/constant/ConstantDesc"), (0, u "MIN_VALUE"), (1, u "MAX_VALUE"), (3, u "SIZE"), (1, u "BYTES"), (1, u "serialVersionUID"), (0, u "J")] 131

def k10c0 : Code := { maxStack := 3, maxLocals := 2, code := jdk_33_method_47_code, exceptionTable := #[], attributes := #[] }
def k10m0 : Method := { name := "numberOfLeadingZeros", desc := "(I)I", sig := { parameters := [.int], returnType := some .int }, accessFlags := 9, code := some k10c0 }
/-- java/lang/Integer -/
def k10 : Class := { plain "java/lang/Integer" (some 5) with
  accessFlags := 49
  interfaces := #[6, 7, 8]
  cf := some (fileOf pool10 1 #[.nestMembers #[189]] #[{ accessFlags := 9, nameIndex := 53, descriptorIndex := 54, attributes := #[] }] 49 203 #[304, 306, 308] #[{ accessFlags := 25, nameIndex := 310, descriptorIndex := 194, attributes := #[] }, { accessFlags := 25, nameIndex := 312, descriptorIndex := 194, attributes := #[] }, { accessFlags := 25, nameIndex := 302, descriptorIndex := 303, attributes := #[] }, { accessFlags := 24, nameIndex := 19, descriptorIndex := 20, attributes := #[] }, { accessFlags := 24, nameIndex := 89, descriptorIndex := 86, attributes := #[] }, { accessFlags := 24, nameIndex := 85, descriptorIndex := 86, attributes := #[] }, { accessFlags := 18, nameIndex := 207, descriptorIndex := 194, attributes := #[] }, { accessFlags := 25, nameIndex := 316, descriptorIndex := 194, attributes := #[] }, { accessFlags := 25, nameIndex := 318, descriptorIndex := 194, attributes := #[] }, { accessFlags := 26, nameIndex := 320, descriptorIndex := 321, attributes := #[] }])
  fields := #[{ name := "MIN_VALUE", type := .int, accessFlags := 25, slot := 0, constantValue := 0 }, { name := "MAX_VALUE", type := .int, accessFlags := 25, slot := 1, constantValue := 0 }, { name := "TYPE", type := (.object "java/lang/Class"), accessFlags := 25, slot := 2, constantValue := 0 }, { name := "digits", type := (.array .char), accessFlags := 24, slot := 3, constantValue := 0 }, { name := "DigitTens", type := (.array .byte), accessFlags := 24, slot := 4, constantValue := 0 }, { name := "DigitOnes", type := (.array .byte), accessFlags := 24, slot := 5, constantValue := 0 }, { name := "value", type := .int, accessFlags := 18, slot := 0, constantValue := 0 }, { name := "SIZE", type := .int, accessFlags := 25, slot := 6, constantValue := 0 }, { name := "BYTES", type := .int, accessFlags := 25, slot := 7, constantValue := 0 }, { name := "serialVersionUID", type := .long, accessFlags := 26, slot := 8, constantValue := 0 }]
  methods := #[k10m0]
  instanceTypes := #[.int]
  staticTypes := #[.int, .int, (.object "java/lang/Class"), (.array .char), (.array .byte), (.array .byte), .int, .int, .long]
  resolved := Array.replicate 453 none
  statics := none }

def pool11 : Array CpInfo := pool [(2, .class_ 4), (1, u "java/lang/Object"), (0, u "<init>"), (0, u "()V"), (7, .class_ 16), (1, u "java/util/Arrays"), (57, .class_ 76), (1, u "java/util/Arrays$NaturalOrder"), (36, .class_ 115), (1, u "java/util/Arrays$LegacyMergeSort"), (1, u "Z"), (257, .class_ 376), (0, u "java/util/Arrays$ArrayList"), (68, u "$assertionsDisabled"), (269, u "MIN_ARRAY_SORT_GRAN"), (0, u "I"), (2, u "INSERTIONSORT_THRESHOLD"), (120, u "fill"), (4, u "([II)V"), (129, .class_ 976), (0, u "java/util/Arrays$ArrayItr")] 52

def k11m0 : Method := { name := "<init>", desc := "()V", sig := { parameters := [], returnType := none }, accessFlags := 2, code := none }
def k11c1 : Code := { maxStack := 3, maxLocals := 4, code := jdk_65_method_103_code, exceptionTable := #[], attributes := #[] }
def k11m1 : Method := { name := "fill", desc := "([II)V", sig := { parameters := [(.array .int), .int], returnType := none }, accessFlags := 9, code := some k11c1 }
/-- java/util/Arrays -/
def k11 : Class := { plain "java/util/Arrays" (some 0) with
  accessFlags := 49
  interfaces := #[]
  cf := some (fileOf pool11 14 #[.nestMembers #[975, 375, 113, 74]] #[{ accessFlags := 2, nameIndex := 5, descriptorIndex := 6, attributes := #[] }, { accessFlags := 9, nameIndex := 840, descriptorIndex := 845, attributes := #[] }] 49 2 #[] #[{ accessFlags := 26, nameIndex := 715, descriptorIndex := 716, attributes := #[] }, { accessFlags := 26, nameIndex := 719, descriptorIndex := 716, attributes := #[] }, { accessFlags := 4120, nameIndex := 445, descriptorIndex := 117, attributes := #[] }])
  fields := #[{ name := "MIN_ARRAY_SORT_GRAN", type := .int, accessFlags := 26, slot := 0, constantValue := 0 }, { name := "INSERTIONSORT_THRESHOLD", type := .int, accessFlags := 26, slot := 1, constantValue := 0 }, { name := "$assertionsDisabled", type := .boolean, accessFlags := 4120, slot := 2, constantValue := 0 }]
  methods := #[k11m0, k11m1]
  instanceTypes := #[]
  staticTypes := #[.int, .int, .boolean]
  resolved := Array.replicate 1029 none
  statics := none }

def pool12 : Array CpInfo := pool [(1, u "java/lang/Cloneable"), (0, .class_ 1), (0, u "java/lang/Object"), (0, .class_ 3)] 3

/-- java/lang/Cloneable -/
def k12 : Class := { plain "java/lang/Cloneable" (some 0) with
  accessFlags := 1537
  interfaces := #[]
  cf := some (fileOf pool12 2 #[] #[] 1537 4 #[] #[])
  fields := #[]
  methods := #[]
  instanceTypes := #[]
  staticTypes := #[]
  resolved := Array.replicate 8 none
  statics := none }

/-- the primitive byte -/
def k13 : Class := { plain "byte" none with kind := .primitive 'B', accessFlags := 0x411 }
/-- [B -/
def k14 : Class := { plain "[B" (some 0) with kind := .array 13 .byte, interfaces := #[12, 4], accessFlags := 1041 }

/-- the primitive int -/
def k15 : Class := { plain "int" none with kind := .primitive 'I', accessFlags := 0x411 }
/-- [I -/
def k16 : Class := { plain "[I" (some 0) with kind := .array 15 .int, interfaces := #[12, 4], accessFlags := 1041 }

/-- [[I -/
def k17 : Class := { plain "[[I" (some 0) with kind := .array 16 (.array .int), interfaces := #[12, 4], accessFlags := 1041 }

def heap : Heap := #[]
def classes : Array Class := #[k0, k1, k2, k3, k4, k5, k6, k7, k8, k9, k10, k11, k12, k13, k14, k15, k16, k17]
def interned : List (Array UInt16 × Addr) := []
def slotsUsed : Nat := 0
def theMethod : MethodId := ⟨1, 5⟩
def args0 : Array Value := #[.long 5, .long 77, .int 291, .int 1017, .int 7]
def aboutOver (below : List Frame) : State where
  vm := { classes := classes, interned := interned.toArray }
  heap := heap
  slotsUsed := slotsUsed
  threads := #[{ frames := .invoking theMethod args0 :: below }]
def below0 : List Frame := [.native { method := ⟨0, 0⟩, args := #[] }]
def about1 : State := aboutOver below0
def p0 : Program := .bare "" "" ""
def e0 : Env := launch0.env 0 0 0
theorem w_frames : about1.frames = Frame.invoking theMethod args0 :: below0 := rfl
set_option maxRecDepth 65536 in
theorem w_args : argsFit about1.vm theMethod args0 = true := by decide +kernel
set_option maxRecDepth 65536 in
theorem w_heap : heapFits about1 = true := by decide +kernel
set_option maxRecDepth 65536 in
theorem w_runnable : about1.curStatus? = some .runnable := by decide +kernel
set_option maxRecDepth 65536 in
theorem w_alone : about1.alone = true := by decide +kernel
set_option maxRecDepth 65536 in
theorem w_named : about1.methodNamed? x = some theMethod := by decide +kernel
set_option maxRecDepth 65536 in
theorem w_hears : about1.hears theMethod below0 = true := by decide +kernel
set_option maxRecDepth 65536 in
theorem w_ripe : about1.ripe theMethod args0 below0 = true := by decide +kernel
theorem w_running : about1.status = .running := rfl
set_option maxRecDepth 65536 in
theorem w_room : about1.hasRoom e0.platform room_1 = true :=
  launch0.hasRoom_least _ room_1 (by decide +kernel) (by decide +kernel) (by decide +kernel) (by decide +kernel) (by decide +kernel) (by decide +kernel)
theorem allAtoms_all (ts : List Jvm.Cond) (a : Array Jvm.Value) (st : Jvm.State) : (allAtoms ts).before a st = ts.all (fun c => c.before a st) := by
  induction ts with
  | nil => rfl
  | cons c t ih =>
    show (Jvm.Cond.and c (allAtoms t)).before a st = _
    rw [Jvm.Cond.before_and, ih, List.all_cons]
def words1 : List Jvm.Cond := Jvm.Cond.code x code maxLocals ret :: tables_1
/-- a 'code' word, met by the world's own term for the bytes: nothing is compared byte by byte -/
theorem code_word {y : MethodName} {bytes : ByteArray} {mx : Nat} {rt : Option FieldType} {a : Array Value} {s : State} {m : MethodId} {meth : Method} {c : Code} (h1 : s.methodNamed? y = some m) (h2 : s.vm.method? m = some meth) (h3 : meth.code = some c) (h4 : c.code = bytes)
    (h5 : (c.maxLocals == mx && c.exceptionTable.isEmpty && decide (c.maxStack ≤ mostOperands) && decide (meth.sig.returnType = rt) && !meth.locks && decide (parseMethodDescriptor y.desc = some meth.sig)) = true) : (Jvm.Cond.code y bytes mx rt).before a s = true := by
  simp only [Bool.and_eq_true, beq_iff_eq, Bool.not_eq_true', decide_eq_true_eq] at h5
  obtain ⟨⟨⟨⟨⟨g1, g2⟩, g3⟩, g4⟩, g5⟩, g6⟩ := h5
  simp [Cond.before, Cond.holds, Cond.value, h1, h2, h3, h4, g1, g2, g3, g4, g5, g6]
def isCode : Jvm.Cond → Bool
  | .code _ _ _ _ => true
  | _ => false
theorem all_split {L : List Jvm.Cond} {P : Jvm.Cond → Bool} (h1 : L.all (fun c => isCode c || P c) = true) (h2 : ∀ c ∈ L.filter isCode, P c = true) : L.all P = true := by
  refine List.all_eq_true.mpr fun c hc => ?_
  have h := List.all_eq_true.mp h1 c hc
  rcases Bool.eq_false_or_eq_true (isCode c) with hi | hi
  · exact h2 c (List.mem_filter.mpr ⟨hc, hi⟩)
  · simpa [hi] using h
set_option maxRecDepth 65536 in
theorem w_c0 : (Jvm.Cond.code x code maxLocals ret).before args0 about1 = true := code_word (m := ⟨1, 5⟩) (meth := k1m5) (c := k1c5) (by decide +kernel) rfl rfl rfl (by decide +kernel)
set_option maxRecDepth 65536 in
theorem w_c1 : (Jvm.Cond.code ({ cls := "com/example/faces_into_crowds/facesintocrowds/Buckets", name := "<init>", desc := "(I)V" } : Jvm.MethodName) prog_1_method_1_code (3 : Nat) (Option.none : Option Jvm.ClassFile.FieldType)).before args0 about1 = true := code_word (m := ⟨2, 0⟩) (meth := k2m0) (c := k2c0) (by decide +kernel) rfl rfl rfl (by decide +kernel)
set_option maxRecDepth 65536 in
theorem w_c2 : (Jvm.Cond.code ({ cls := "java/lang/Object", name := "<init>", desc := "()V" } : Jvm.MethodName) object_method_1_code (1 : Nat) (Option.none : Option Jvm.ClassFile.FieldType)).before args0 about1 = true := code_word (m := ⟨0, 0⟩) (meth := k0m0) (c := k0c0) (by decide +kernel) rfl rfl rfl (by decide +kernel)
set_option maxRecDepth 65536 in
theorem w_c3 : (Jvm.Cond.code ({ cls := "java/lang/Math", name := "max", desc := "(JJ)J" } : Jvm.MethodName) jdk_29_method_66_code (4 : Nat) (Option.some Jvm.ClassFile.FieldType.long)).before args0 about1 = true := code_word (m := ⟨3, 1⟩) (meth := k3m1) (c := k3c1) (by decide +kernel) rfl rfl rfl (by decide +kernel)
set_option maxRecDepth 65536 in
theorem w_c4 : (Jvm.Cond.code ({ cls := "java/lang/Long", name := "numberOfLeadingZeros", desc := "(J)I" } : Jvm.MethodName) jdk_35_method_48_code (3 : Nat) (Option.some Jvm.ClassFile.FieldType.int)).before args0 about1 = true := code_word (m := ⟨9, 0⟩) (meth := k9m0) (c := k9c0) (by decide +kernel) rfl rfl rfl (by decide +kernel)
set_option maxRecDepth 65536 in
theorem w_c5 : (Jvm.Cond.code ({ cls := "java/lang/Integer", name := "numberOfLeadingZeros", desc := "(I)I" } : Jvm.MethodName) jdk_33_method_47_code (2 : Nat) (Option.some Jvm.ClassFile.FieldType.int)).before args0 about1 = true := code_word (m := ⟨10, 0⟩) (meth := k10m0) (c := k10c0) (by decide +kernel) rfl rfl rfl (by decide +kernel)
set_option maxRecDepth 65536 in
theorem w_c6 : (Jvm.Cond.code ({ cls := "java/util/Arrays", name := "fill", desc := "([II)V" } : Jvm.MethodName) jdk_65_method_103_code (4 : Nat) (Option.none : Option Jvm.ClassFile.FieldType)).before args0 about1 = true := code_word (m := ⟨11, 1⟩) (meth := k11m1) (c := k11c1) (by decide +kernel) rfl rfl rfl (by decide +kernel)
set_option maxRecDepth 65536 in
theorem w_c7 : (Jvm.Cond.code ({ cls := "com/example/faces_into_crowds/facesintocrowds/Buckets", name := "sort", desc := "([II[I[[I)V" } : Jvm.MethodName) prog_1_method_2_code (11 : Nat) (Option.none : Option Jvm.ClassFile.FieldType)).before args0 about1 = true := code_word (m := ⟨2, 1⟩) (meth := k2m1) (c := k2c1) (by decide +kernel) rfl rfl rfl (by decide +kernel)
set_option maxRecDepth 65536 in
theorem w_c8 : (Jvm.Cond.code ({ cls := "com/example/faces_into_crowds/facesintocrowds/BucketsFirstPinLaw", name := "bucketCount", desc := "([II)I" } : Jvm.MethodName) method_3_code (3 : Nat) (Option.some Jvm.ClassFile.FieldType.int)).before args0 about1 = true := code_word (m := ⟨1, 2⟩) (meth := k1m2) (c := k1c2) (by decide +kernel) rfl rfl rfl (by decide +kernel)
set_option maxRecDepth 65536 in
theorem w_c9 : (Jvm.Cond.code ({ cls := "com/example/faces_into_crowds/facesintocrowds/Buckets", name := "count", desc := "()I" } : Jvm.MethodName) prog_1_method_3_code (1 : Nat) (Option.some Jvm.ClassFile.FieldType.int)).before args0 about1 = true := code_word (m := ⟨2, 2⟩) (meth := k2m2) (c := k2c2) (by decide +kernel) rfl rfl rfl (by decide +kernel)
set_option maxRecDepth 65536 in
theorem w_c10 : (Jvm.Cond.code ({ cls := "com/example/faces_into_crowds/facesintocrowds/Buckets", name := "alike", desc := "(II[I[[I)Z" } : Jvm.MethodName) prog_1_method_7_code (7 : Nat) (Option.some Jvm.ClassFile.FieldType.boolean)).before args0 about1 = true := code_word (m := ⟨2, 4⟩) (meth := k2m4) (c := k2c4) (by decide +kernel) rfl rfl rfl (by decide +kernel)
set_option maxRecDepth 65536 in
theorem w_c11 : (Jvm.Cond.code ({ cls := "com/example/faces_into_crowds/facesintocrowds/BucketsFirstPinLaw", name := "fresh", desc := "([II)Z" } : Jvm.MethodName) method_2_code (2 : Nat) (Option.some Jvm.ClassFile.FieldType.boolean)).before args0 about1 = true := code_word (m := ⟨1, 1⟩) (meth := k1m1) (c := k1c1) (by decide +kernel) rfl rfl rfl (by decide +kernel)
set_option maxRecDepth 65536 in
theorem w_c12 : (Jvm.Cond.code ({ cls := "com/example/faces_into_crowds/facesintocrowds/BucketsFirstPinLaw", name := "leaderOf", desc := "([III)I" } : Jvm.MethodName) method_4_code (5 : Nat) (Option.some Jvm.ClassFile.FieldType.int)).before args0 about1 = true := code_word (m := ⟨1, 3⟩) (meth := k1m3) (c := k1c3) (by decide +kernel) rfl rfl rfl (by decide +kernel)
set_option maxRecDepth 65536 in
theorem w_c13 : (Jvm.Cond.code ({ cls := "com/example/faces_into_crowds/facesintocrowds/BucketsFirstPinLaw", name := "lastWith", desc := "([III)I" } : Jvm.MethodName) method_5_code (4 : Nat) (Option.some Jvm.ClassFile.FieldType.int)).before args0 about1 = true := code_word (m := ⟨1, 4⟩) (meth := k1m4) (c := k1c4) (by decide +kernel) rfl rfl rfl (by decide +kernel)
set_option maxRecDepth 65536 in
theorem w_c14 : (Jvm.Cond.code ({ cls := "com/example/faces_into_crowds/facesintocrowds/Buckets", name := "first", desc := "(I)I" } : Jvm.MethodName) prog_1_method_4_code (2 : Nat) (Option.some Jvm.ClassFile.FieldType.int)).before args0 about1 = true := code_word (m := ⟨2, 3⟩) (meth := k2m3) (c := k2c3) (by decide +kernel) rfl rfl rfl (by decide +kernel)
def codes1 : List Jvm.Cond := [Jvm.Cond.code x code maxLocals ret, Jvm.Cond.code ({ cls := "com/example/faces_into_crowds/facesintocrowds/Buckets", name := "<init>", desc := "(I)V" } : Jvm.MethodName) prog_1_method_1_code (3 : Nat) (Option.none : Option Jvm.ClassFile.FieldType), Jvm.Cond.code ({ cls := "java/lang/Object", name := "<init>", desc := "()V" } : Jvm.MethodName) object_method_1_code (1 : Nat) (Option.none : Option Jvm.ClassFile.FieldType), Jvm.Cond.code ({ cls := "java/lang/Math", name := "max", desc := "(JJ)J" } : Jvm.MethodName) jdk_29_method_66_code (4 : Nat) (Option.some Jvm.ClassFile.FieldType.long), Jvm.Cond.code ({ cls := "java/lang/Long", name := "numberOfLeadingZeros", desc := "(J)I" } : Jvm.MethodName) jdk_35_method_48_code (3 : Nat) (Option.some Jvm.ClassFile.FieldType.int), Jvm.Cond.code ({ cls := "java/lang/Integer", name := "numberOfLeadingZeros", desc := "(I)I" } : Jvm.MethodName) jdk_33_method_47_code (2 : Nat) (Option.some Jvm.ClassFile.FieldType.int), Jvm.Cond.code ({ cls := "java/util/Arrays", name := "fill", desc := "([II)V" } : Jvm.MethodName) jdk_65_method_103_code (4 : Nat) (Option.none : Option Jvm.ClassFile.FieldType), Jvm.Cond.code ({ cls := "com/example/faces_into_crowds/facesintocrowds/Buckets", name := "sort", desc := "([II[I[[I)V" } : Jvm.MethodName) prog_1_method_2_code (11 : Nat) (Option.none : Option Jvm.ClassFile.FieldType), Jvm.Cond.code ({ cls := "com/example/faces_into_crowds/facesintocrowds/BucketsFirstPinLaw", name := "bucketCount", desc := "([II)I" } : Jvm.MethodName) method_3_code (3 : Nat) (Option.some Jvm.ClassFile.FieldType.int), Jvm.Cond.code ({ cls := "com/example/faces_into_crowds/facesintocrowds/Buckets", name := "count", desc := "()I" } : Jvm.MethodName) prog_1_method_3_code (1 : Nat) (Option.some Jvm.ClassFile.FieldType.int), Jvm.Cond.code ({ cls := "com/example/faces_into_crowds/facesintocrowds/Buckets", name := "alike", desc := "(II[I[[I)Z" } : Jvm.MethodName) prog_1_method_7_code (7 : Nat) (Option.some Jvm.ClassFile.FieldType.boolean), Jvm.Cond.code ({ cls := "com/example/faces_into_crowds/facesintocrowds/BucketsFirstPinLaw", name := "fresh", desc := "([II)Z" } : Jvm.MethodName) method_2_code (2 : Nat) (Option.some Jvm.ClassFile.FieldType.boolean), Jvm.Cond.code ({ cls := "com/example/faces_into_crowds/facesintocrowds/BucketsFirstPinLaw", name := "leaderOf", desc := "([III)I" } : Jvm.MethodName) method_4_code (5 : Nat) (Option.some Jvm.ClassFile.FieldType.int), Jvm.Cond.code ({ cls := "com/example/faces_into_crowds/facesintocrowds/BucketsFirstPinLaw", name := "lastWith", desc := "([III)I" } : Jvm.MethodName) method_5_code (4 : Nat) (Option.some Jvm.ClassFile.FieldType.int), Jvm.Cond.code ({ cls := "com/example/faces_into_crowds/facesintocrowds/Buckets", name := "first", desc := "(I)I" } : Jvm.MethodName) prog_1_method_4_code (2 : Nat) (Option.some Jvm.ClassFile.FieldType.int)]
set_option maxRecDepth 65536 in
theorem codes_eq : words1.filter isCode = codes1 := rfl
theorem w_codes : ∀ c ∈ words1.filter isCode, c.before args0 about1 = true := by
  rw [codes_eq]
  intro c hc
  simp only [codes1, List.mem_cons, List.not_mem_nil, or_false] at hc
  rcases hc with rfl | rfl | rfl | rfl | rfl | rfl | rfl | rfl | rfl | rfl | rfl | rfl | rfl | rfl | rfl
  · exact w_c0
  · exact w_c1
  · exact w_c2
  · exact w_c3
  · exact w_c4
  · exact w_c5
  · exact w_c6
  · exact w_c7
  · exact w_c8
  · exact w_c9
  · exact w_c10
  · exact w_c11
  · exact w_c12
  · exact w_c13
  · exact w_c14
set_option maxRecDepth 65536 in
theorem w_t1 : (words1.take 24).all (fun c => isCode c || c.before args0 about1) = true := by decide +kernel
set_option maxRecDepth 65536 in
theorem w_t2 : ((words1.drop 24).take 24).all (fun c => isCode c || c.before args0 about1) = true := by decide +kernel
set_option maxRecDepth 65536 in
theorem w_t3 : (((words1.drop 24).drop 24).take 24).all (fun c => isCode c || c.before args0 about1) = true := by decide +kernel
set_option maxRecDepth 65536 in
theorem w_t4 : (((words1.drop 24).drop 24).drop 24).all (fun c => isCode c || c.before args0 about1) = true := by decide +kernel
theorem w_tables : (allAtoms (Jvm.Cond.code x code maxLocals ret :: tables_1)).before args0 about1 = true := by
  rw [allAtoms_all]
  show words1.all (fun c => c.before args0 about1) = true
  refine all_split ?_ w_codes
  rw [← List.take_append_drop 24 words1, List.all_append, w_t1, ← List.take_append_drop 24 (words1.drop 24), List.all_append, w_t2, ← List.take_append_drop 24 ((words1.drop 24).drop 24), List.all_append, w_t3, w_t4]
  rfl
set_option maxRecDepth 65536 in
theorem w_case : (Jvm.Cond.and given_1 narrow_1).before args0 about1 = true := by decide +kernel
theorem w_applies : (headSpec (Jvm.Cond.code x code maxLocals ret :: tables_1) room_1).applies x e0.platform about1 = true :=
  (Spec.applies_iff w_frames).mpr ⟨w_running, w_runnable, w_alone, w_named, w_hears, w_ripe, w_room, w_tables⟩
theorem atStart : AtStart classFile x code maxLocals ret World_1 tables_1 room_1 Calls_1 rest_1 Pre_1 launch0 p0 e0 about1 theMethod args0 below0 :=
  ⟨lists_1, trivial, launch0.admits_env _ _ _, launch0.least_env, fairChoices_fair.cas, fairChoices_fair.clock, w_frames, w_args, w_heap, w_applies, trivial, trivial, w_case⟩
end start1
theorem witness_1 : WitnessClaimed_1 := ⟨start1.p0, start1.e0, start1.about1, start1.theMethod, start1.args0, start1.below0, start1.atStart⟩
end Jvm.Pilot.@@N@@
