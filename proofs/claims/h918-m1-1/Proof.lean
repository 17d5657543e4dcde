import JvmDerived
import JvmDerived.Pilot.@@N@@Statement
import JvmDerived.Pilot.@@N@@Code
set_option linter.unusedVariables false
set_option linter.unusedSimpArgs false
namespace Jvm.RoadKit
open Sem ClassFile Op Lib Jvm.Stand Jvm.Free Jvm.LawKit
section New
variable {p : Program} {l : Launch} {e : Env} {R : Room} {s : State} {m : MethodId} {args : Array Value} {below : List Frame} {meth : Method} {c : Code} {T : State} {locs : List Loc} {cells slots : Nat}
theorem retI (X : Stand p l e R s m args below meth c T locs cells slots) (hx : p.tables.exec = Jvm.exec) {pc : Nat} {Ls : Array Slot} {z : Int32} {rest : List Value} (hret : meth.sig.returnType = some .int) (hd : decode c.code pc = .ok (.ireturn, 1)) {fs : List Frame}
    (hl : ∀ (f : JFrame) (acts : List Action), f.method = m → f.locked = none → f.entered = [] → (doReturn e (T.setTop f) acts (some (.int z))).1 = T.setFrames fs) : Steps p.tables e below (T.setTop (mkF m pc Ls (.int z :: rest))) (T.setFrames fs) := by
  have hm' : T.vm.method? m = some meth := X.method'
  have hn : narrow .int (.int z) = .int z := rfl
  show Steps p.tables e below (T.setTop { method := m, pc := pc, locals := Ls, stack := _ :: rest, locked := none }) _
  jvm_step X.here [X.here.top, hx, hd, hm', hret, hn]
  first | (intro acts; rw [hl _ acts rfl rfl rfl]) | rw [hl _ _ rfl rfl rfl]
  exact Steps.refl _
end New
end Jvm.RoadKit
/- laws to paste: Road.backV (cut by pick.py; bodies as the Statement names them) -/
namespace Jvm.Pilot.@@N@@
namespace StrChars
open Jvm Sem ClassFile Op Lib Jvm.Stand Jvm.Free.XT Jvm.Free.ALB Jvm.Free.JM Jvm.Free
open Jvm.Lib.Cold (StaticIs)
/-- a char array whose places are chars -/
def Ch (a : Addr) (A : Cell) (U : State) : Prop := Arr .char a A U ∧ Typed .char A
theorem Ch.mv {a : Addr} {A : Cell} {U U' : State} (h : Ch a A U) (hal : U.vm.Alike U'.vm) (hh : U'.heap = U.heap) : Ch a A U' := ⟨h.1.mv hal hh, h.2⟩
theorem Ch.keep {a : Addr} {A : Cell} {U U' : State} (h : Ch a A U) (hal : U.vm.Alike U'.vm) (hk : U'.heap[a]? = some A) : Ch a A U' := ⟨h.1.keep hal hk, h.2⟩
/-- what place i of a char[]'s cell holds -/
def cv (A : Cell) (i : Nat) : Int32 := match A.slots[i]? with | some (.int x) => x | _ => 0
theorem Ch.get {a : Addr} {A : Cell} {U : State} (h : Ch a A U) {i : Nat} (hi : i < A.slots.size) : A.slots[i]? = some (.int (cv A i)) := by
  have e := Array.getElem?_eq_getElem hi
  have f := h.2 i _ e
  unfold cv; rw [e]
  generalize A.slots[i] = v at f
  cases v <;> simp [fits] at f ⊢
/-- the byte that i2b leaves of a char -/
def lo8 (x : Int32) : Int32 := x.toInt8.toInt32
theorem fits_lo8 (y : Int32) : fits .byte (.int (lo8 y)) = true := by
  have h1 := y.toInt8.le_toInt
  have h2 := y.toInt8.toInt_lt
  simp only [lo8, fits, Bool.and_eq_true, decide_eq_true_eq, Int32.le_iff_toInt_le, Int8.toInt_toInt32, show (-128 : Int32).toInt = -128 from by decide, show (127 : Int32).toInt = 127 from by decide]
  omega
/-- A' is A but that each place j of lo .. hi - 1 holds f j -/
def Laid (A A' : Cell) (lo hi : Nat) (f : Nat → Value) : Prop := A'.cls = A.cls ∧ A'.vm = A.vm ∧ A'.slots.size = A.slots.size ∧ ∀ i, A'.slots[i]? = if lo ≤ i ∧ i < hi then some (f i) else A.slots[i]?
theorem Laid.zero (A : Cell) (lo : Nat) (f : Nat → Value) : Laid A A lo (lo + 0) f := ⟨rfl, rfl, rfl, fun i => by rw [if_neg (by omega)]⟩
theorem Laid.step {A Ak : Cell} {lo k : Nat} {f : Nat → Value} {v : Value} (h : Laid A Ak lo k f) (hlo : lo ≤ k) (hk : k < Ak.slots.size) (hv : v = f k) : Laid A (Ak.setSlot k v) lo (k + 1) f := by
  refine ⟨h.1, h.2.1, by simpa [Cell.setSlot] using h.2.2.1, fun i => ?_⟩
  by_cases e : k = i
  · subst e; rw [Cell.slots_setSlot_self v hk, if_pos (by omega), hv]
  · rw [Cell.slots_setSlot_ne v e, h.2.2.2 i]
    by_cases q : lo ≤ i ∧ i < k
    · rw [if_pos q, if_pos (by omega)]
    · rw [if_neg q, if_neg (by omega)]
def U16 : String := "java/lang/StringUTF16"
namespace Cmp5
def yN : MethodName := ⟨"java/lang/StringUTF16", "compress", "([CI[BII)I"⟩
abbrev yB : ByteArray := jdk_52_method_21_code
theorem d0 : decode yB 0 = .ok (.iconst 0, 1) := by decide +kernel
theorem d1 : decode yB 1 = .ok (.istore 5, 2) := by decide +kernel
theorem d3 : decode yB 3 = .ok (.iload 5, 2) := by decide +kernel
theorem d5 : decode yB 5 = .ok (.iload 4, 2) := by decide +kernel
theorem d7 : decode yB 7 = .ok (.if_icmp (.ge) 37, 3) := by decide +kernel
theorem d10 : decode yB 10 = .ok (.aload_n 0, 1) := by decide +kernel
theorem d11 : decode yB 11 = .ok (.iload_n 1, 1) := by decide +kernel
theorem d12 : decode yB 12 = .ok (.caload, 1) := by decide +kernel
theorem d13 : decode yB 13 = .ok (.istore 6, 2) := by decide +kernel
theorem d15 : decode yB 15 = .ok (.iload 6, 2) := by decide +kernel
theorem d17 : decode yB 17 = .ok (.sipush 255, 3) := by decide +kernel
theorem d20 : decode yB 20 = .ok (.if_icmp (.le) 6, 3) := by decide +kernel
theorem d26 : decode yB 26 = .ok (.aload_n 2, 1) := by decide +kernel
theorem d27 : decode yB 27 = .ok (.iload_n 3, 1) := by decide +kernel
theorem d28 : decode yB 28 = .ok (.iload 6, 2) := by decide +kernel
theorem d30 : decode yB 30 = .ok (.i2b, 1) := by decide +kernel
theorem d31 : decode yB 31 = .ok (.bastore, 1) := by decide +kernel
theorem d32 : decode yB 32 = .ok (.iinc 1 1, 3) := by decide +kernel
theorem d35 : decode yB 35 = .ok (.iinc 3 1, 3) := by decide +kernel
theorem d38 : decode yB 38 = .ok (.iinc 5 1, 3) := by decide +kernel
theorem d41 : decode yB 41 = .ok (.goto (-38), 3) := by decide +kernel
theorem d44 : decode yB 44 = .ok (.iload 4, 2) := by decide +kernel
theorem d46 : decode yB 46 = .ok (.ireturn, 1) := by decide +kernel
def site : List Cond := []
def tab : Cond := tabOf yN yB 7 (some .int) site
def P (b : Addr) (A : Cell) (d : Addr) (B : Cell) (o q len : Nat) (args : Array Value) (s : State) : Prop := args = #[.ref b, .int (Int32.ofNat o), .ref d, .int (Int32.ofNat q), .int (Int32.ofNat len)] ∧ Ch b A s ∧ Arr .byte d B s ∧ b ≠ d ∧ o + len ≤ A.slots.size ∧ q + len ≤ B.slots.size ∧ ∀ i, i < len → ¬ 255 < cv A (o + i)
def E (b : Addr) (A : Cell) (d : Addr) (B : Cell) (o q len : Nat) (r : Option Value) (s u : State) : Prop := r = some (.int (Int32.ofNat len)) ∧ ∃ B', Put d B' s u ∧ Laid B B' q (q + len) (fun j => Value.int (lo8 (cv A (o + (j - q)))))
/-- no char of the range above 255: len; the places written hold each char's low byte -/
theorem law (l : Launch) (b : Addr) (A : Cell) (d : Addr) (B : Cell) (o q len : Nat) : Law l yN 5 5 0 0 yB 7 (some .int) site (P b A d B o q len) (E b A d B o q len) (copyLocs d q len) 0 0 := by
  refine Law.of_walk (plainFor_of_name (by decide +kernel)) (by decide +kernel) (by decide +kernel) (by decide) (fun _ _ h => by rw [h.1]; rfl) (fun _ U U' hal hh h => ⟨h.1, h.2.1.mv hal hh, h.2.2.1.mv hal hh, h.2.2.2⟩) (fun r U U' V V' h1 hal h2 h => ⟨h.1, h.2.elim fun B' q => ⟨B', q.1.mv h1 h2, q.2⟩⟩) ?_
  intro p e s m args below meth c s₁ X0 hexec hbytes hml hret hlk hnm hown hh0 W hP
  obtain ⟨rfl, hA, hB, hne, l1, l2, hp⟩ := hP
  have c1 : Steps p.tables e below (s₁.setTop (entryFrame m #[.ref b, .int (Int32.ofNat o), .ref d, .int (Int32.ofNat q), .int (Int32.ofNat len)] 7)) (s₁.setTop (mkF m 0 #[.val (.ref b), .val (.int (Int32.ofNat o)), .val (.ref d), .val (.int (Int32.ofNat q)), .val (.int (Int32.ofNat len)), .unset, .unset] [])) := entry rfl
  have hA0 := hA.1.mv X0.warmed.alike hh0
  have hB0 := hB.mv X0.warmed.alike hh0
  have a31 := hA.1.2.2.2
  have c2 : Steps p.tables e below (s₁.setTop (entryFrame m #[.ref b, .int (Int32.ofNat o), .ref d, .int (Int32.ofNat q), .int (Int32.ofNat len)] 7)) (s₁.setTop (mkF m 3 #[.val (.ref b), .val (.int (Int32.ofNat o)), .val (.ref d), .val (.int (Int32.ofNat q)), .val (.int (Int32.ofNat len)), .val (.int 0), .unset] [])) := c1.trans (by
    refine iconstV X0.here hexec rfl 0 (hb hbytes d0) (by decide) ?_
    refine XS.istore X0.here hexec rfl (hb hbytes d1) rfl rfl ?_
    exact Steps.refl _)
  have loop : ∀ (r i : Nat), i + r = len → ∀ (z : Slot), (z = .unset ∨ ∃ w, z = .val w ∧ w.category = 1) → ∀ (Tl : State) (Bk : Cell), Stand p l e { frames := 0, locals := 0, cells := 0, slots := 0 } s m #[.ref b, .int (Int32.ofNat o), .ref d, .int (Int32.ofNat q), .int (Int32.ofNat len)] below meth c Tl ([] ++ copyLocs d q i) 0 0 → Put d Bk s₁ Tl → Laid B Bk q (q + i) (fun j => Value.int (lo8 (cv A (o + (j - q))))) →
      Steps p.tables e below (s₁.setTop (entryFrame m #[.ref b, .int (Int32.ofNat o), .ref d, .int (Int32.ofNat q), .int (Int32.ofNat len)] 7)) (Tl.setTop (mkF m 3 #[.val (.ref b), .val (.int (Int32.ofNat (o + i))), .val (.ref d), .val (.int (Int32.ofNat (q + i))), .val (.int (Int32.ofNat len)), .val (.int (Int32.ofNat i)), z] [])) → ∃ (T' : State) (B' : Cell) (z' : Slot), Stand p l e { frames := 0, locals := 0, cells := 0, slots := 0 } s m #[.ref b, .int (Int32.ofNat o), .ref d, .int (Int32.ofNat q), .int (Int32.ofNat len)] below meth c T' ([] ++ copyLocs d q len) 0 0 ∧ Put d B' s₁ T' ∧ Laid B B' q (q + len) (fun j => Value.int (lo8 (cv A (o + (j - q))))) ∧
      Steps p.tables e below (s₁.setTop (entryFrame m #[.ref b, .int (Int32.ofNat o), .ref d, .int (Int32.ofNat q), .int (Int32.ofNat len)] 7)) (T'.setTop (mkF m 3 #[.val (.ref b), .val (.int (Int32.ofNat (o + len))), .val (.ref d), .val (.int (Int32.ofNat (q + len))), .val (.int (Int32.ofNat len)), .val (.int (Int32.ofNat len)), z'] [])) := by
    intro r
    induction r with
    | zero =>
      intro i hi z hz Tl Bk Xl pl fl cl
      have hil : i = len := by omega
      rw [hil] at Xl fl cl
      exact ⟨Tl, Bk, z, Xl, pl, fl, cl⟩
    | succ r ih =>
      intro i hi z hz Tl Bk Xl pl fl cl
      have all := X0.warmed.alike.symm.trans Xl.warmed.alike
      have hAl := hA0.keep all (pl.other hne hA0.1)
      have hBk := hB0.like all pl.1 fl.1 fl.2.1 fl.2.2.1
      have hlt : q + i < Bk.slots.size := by rw [fl.2.2.1]; omega
      have c3 : Steps p.tables e below (s₁.setTop (entryFrame m #[.ref b, .int (Int32.ofNat o), .ref d, .int (Int32.ofNat q), .int (Int32.ofNat len)] 7)) (Tl.setTop (mkF m 12 #[.val (.ref b), .val (.int (Int32.ofNat (o + i))), .val (.ref d), .val (.int (Int32.ofNat (q + i))), .val (.int (Int32.ofNat len)), .val (.int (Int32.ofNat i)), z] [.int (Int32.ofNat (o + i)), .ref b])) := cl.trans (by
        refine XS.iload Xl.here hexec rfl (hb hbytes d3) rfl ?_
        refine XS.iload Xl.here hexec rfl (hb hbytes d5) rfl ?_
        refine XS.icmpNo Xl.here hexec rfl (hb hbytes d7) rfl (ii_ge_f (lt32 (by omega) (by omega))) ?_
        refine XS.aloadN Xl.here hexec rfl (hb hbytes d10) rfl rfl ?_
        refine XS.iloadN Xl.here hexec rfl (hb hbytes d11) rfl ?_
        exact Steps.refl _)
      have c4 : Steps p.tables e below (s₁.setTop (entryFrame m #[.ref b, .int (Int32.ofNat o), .ref d, .int (Int32.ofNat q), .int (Int32.ofNat len)] 7)) (Tl.setTop (mkF m 13 #[.val (.ref b), .val (.int (Int32.ofNat (o + i))), .val (.ref d), .val (.int (Int32.ofNat (q + i))), .val (.int (Int32.ofNat len)), .val (.int (Int32.ofNat i)), z] [.int (cv A (o + i))])) := c3.trans (by
        refine Xl.aget hexec hAl rfl (hA.get (i := o + i) (by omega)) rfl rfl (hb hbytes d12) ?_
        exact Steps.refl _)
      have c5 : Steps p.tables e below (s₁.setTop (entryFrame m #[.ref b, .int (Int32.ofNat o), .ref d, .int (Int32.ofNat q), .int (Int32.ofNat len)] 7)) (Tl.setTop (mkF m 15 #[.val (.ref b), .val (.int (Int32.ofNat (o + i))), .val (.ref d), .val (.int (Int32.ofNat (q + i))), .val (.int (Int32.ofNat len)), .val (.int (Int32.ofNat i)), .val (.int (cv A (o + i)))] [])) := c4.trans (by
        refine XS.istoreS Xl.here hexec rfl (hb hbytes d13) rfl rfl hz ?_
        exact Steps.refl _)
      have c6 : Steps p.tables e below (s₁.setTop (entryFrame m #[.ref b, .int (Int32.ofNat o), .ref d, .int (Int32.ofNat q), .int (Int32.ofNat len)] 7)) (Tl.setTop (mkF m 31 #[.val (.ref b), .val (.int (Int32.ofNat (o + i))), .val (.ref d), .val (.int (Int32.ofNat (q + i))), .val (.int (Int32.ofNat len)), .val (.int (Int32.ofNat i)), .val (.int (cv A (o + i)))] [.int (lo8 (cv A (o + i))), .int (Int32.ofNat (q + i)), .ref d])) := c5.trans (by
        refine XS.iload Xl.here hexec rfl (hb hbytes d15) rfl ?_
        refine sipushV Xl.here hexec rfl 255 (hb hbytes d17) (by decide) ?_
        refine XS.icmpYes Xl.here hexec rfl (pc0 := 20) rfl (hb hbytes d20) rfl (ii_le_t (hp i (by omega))) (by decide) rfl ?_
        refine XS.aloadN Xl.here hexec rfl (hb hbytes d26) rfl rfl ?_
        refine XS.iloadN Xl.here hexec rfl (hb hbytes d27) rfl ?_
        refine XS.iload Xl.here hexec rfl (hb hbytes d28) rfl ?_
        refine i2b Xl.here hexec rfl (hb hbytes d30) rfl ?_
        exact Steps.refl _)
      obtain ⟨T7, X7, p7, st7⟩ := Xl.aput hexec hBk rfl hlt rfl (fits_lo8 (cv A (o + i))) (g := (mkF m 31 #[.val (.ref b), .val (.int (Int32.ofNat (o + i))), .val (.ref d), .val (.int (Int32.ofNat (q + i))), .val (.int (Int32.ofNat len)), .val (.int (Int32.ofNat i)), .val (.int (cv A (o + i)))] [.int (lo8 (cv A (o + i))), .int (Int32.ofNat (q + i)), .ref d])) rfl (rest := []) rfl (hb hbytes d31)
      have c8 : Steps p.tables e below (s₁.setTop (entryFrame m #[.ref b, .int (Int32.ofNat o), .ref d, .int (Int32.ofNat q), .int (Int32.ofNat len)] 7)) (T7.setTop (mkF m 32 #[.val (.ref b), .val (.int (Int32.ofNat (o + i))), .val (.ref d), .val (.int (Int32.ofNat (q + i))), .val (.int (Int32.ofNat len)), .val (.int (Int32.ofNat i)), .val (.int (cv A (o + i)))] [])) := c6.trans (st7 _ (Steps.refl _))
      have c9 : Steps p.tables e below (s₁.setTop (entryFrame m #[.ref b, .int (Int32.ofNat o), .ref d, .int (Int32.ofNat q), .int (Int32.ofNat len)] 7)) (T7.setTop (mkF m 3 #[.val (.ref b), .val (.int (Int32.ofNat (o + i) + 1)), .val (.ref d), .val (.int (Int32.ofNat (q + i) + 1)), .val (.int (Int32.ofNat len)), .val (.int (Int32.ofNat i + 1)), .val (.int (cv A (o + i)))] [])) := c8.trans (by
        refine iincV X7.here hexec rfl 1 (hb hbytes d32) (by decide) rfl rfl ?_
        refine iincV X7.here hexec rfl 1 (hb hbytes d35) (by decide) rfl rfl ?_
        refine iincV X7.here hexec rfl 1 (hb hbytes d38) (by decide) rfl rfl ?_
        refine XS.goto X7.here hexec rfl (pc0 := 41) rfl (hb hbytes d41) (by decide) rfl ?_
        exact Steps.refl _)
      have c10 : Steps p.tables e below (s₁.setTop (entryFrame m #[.ref b, .int (Int32.ofNat o), .ref d, .int (Int32.ofNat q), .int (Int32.ofNat len)] 7)) (T7.setTop (mkF m 3 #[.val (.ref b), .val (.int (Int32.ofNat (o + (i + 1)))), .val (.ref d), .val (.int (Int32.ofNat (q + (i + 1)))), .val (.int (Int32.ofNat len)), .val (.int (Int32.ofNat (i + 1))), .val (.int (cv A (o + i)))] [])) := by
        have := c9
        rw [succ32, succ32, succ32] at this
        exact this
      exact ih (i + 1) (by omega) _ (Or.inr ⟨_, rfl, rfl⟩) T7 _ (by rw [copyLocs_step, ← List.append_assoc]; exact X7) (pl.trans p7) (fl.step (by omega) hlt (by simp)) c10
  obtain ⟨T9, B9, z9, X9, p9, f9, g9⟩ := loop len 0 (by omega) .unset (Or.inl rfl) s₁ B (by simpa [copyLocs] using X0) ⟨hB0.1, fun _ _ => rfl, rfl⟩ (Laid.zero _ _ _) c2
  have c11 : Steps p.tables e below (s₁.setTop (entryFrame m #[.ref b, .int (Int32.ofNat o), .ref d, .int (Int32.ofNat q), .int (Int32.ofNat len)] 7)) (T9.setTop (mkF m 46 #[.val (.ref b), .val (.int (Int32.ofNat (o + len))), .val (.ref d), .val (.int (Int32.ofNat (q + len))), .val (.int (Int32.ofNat len)), .val (.int (Int32.ofNat len)), z9] [.int (Int32.ofNat len)])) := g9.trans (by
    refine XS.iload X9.here hexec rfl (hb hbytes d3) rfl ?_
    refine XS.iload X9.here hexec rfl (hb hbytes d5) rfl ?_
    refine XS.icmpYes X9.here hexec rfl (pc0 := 7) rfl (hb hbytes d7) rfl (ii_ge_t (nlt32 (by omega) (Nat.le_refl _))) (by decide) rfl ?_
    refine XS.iload X9.here hexec rfl (hb hbytes d44) rfl ?_
    exact Steps.refl _)
  exact ⟨T9, some (.int (Int32.ofNat len)), _, _, _, X9, by simp, rfl, rfl, (fun h => by cases h), ⟨rfl, B9, p9.from hh0, f9⟩, fun fs hl => c11.trans (X9.ireturnOut hexec hret rfl (Or.inl rfl) (hb hbytes d46) hl)⟩
end Cmp5
namespace Cmp3
def yN : MethodName := ⟨"java/lang/StringUTF16", "compress", "([CII)[B"⟩
abbrev yB : ByteArray := jdk_52_method_16_code
theorem d0 : decode yB 0 = .ok (.iload_n 2, 1) := by decide +kernel
theorem d1 : decode yB 1 = .ok (.newarray .byte, 2) := by decide +kernel
theorem d3 : decode yB 3 = .ok (.astore_n 3, 1) := by decide +kernel
theorem d4 : decode yB 4 = .ok (.aload_n 0, 1) := by decide +kernel
theorem d5 : decode yB 5 = .ok (.iload_n 1, 1) := by decide +kernel
theorem d6 : decode yB 6 = .ok (.aload_n 3, 1) := by decide +kernel
theorem d7 : decode yB 7 = .ok (.iconst 0, 1) := by decide +kernel
theorem d8 : decode yB 8 = .ok (.iload_n 2, 1) := by decide +kernel
theorem d9 : decode yB 9 = .ok (.invokestatic 115, 3) := by decide +kernel
theorem d12 : decode yB 12 = .ok (.istore 4, 2) := by decide +kernel
theorem d14 : decode yB 14 = .ok (.iload 4, 2) := by decide +kernel
theorem d16 : decode yB 16 = .ok (.iload_n 2, 1) := by decide +kernel
theorem d17 : decode yB 17 = .ok (.if_icmp (.eq) 40, 3) := by decide +kernel
theorem d57 : decode yB 57 = .ok (.aload_n 3, 1) := by decide +kernel
theorem d58 : decode yB 58 = .ok (.areturn, 1) := by decide +kernel
def site : List Cond := [.arrayClass .byte, Cmp5.tab] ++ staticW U16 115 Cmp5.yN
def tab : Cond := tabOf yN yB 6 (some (.array .byte)) site
def P (b : Addr) (A : Cell) (o len : Nat) (args : Array Value) (s : State) : Prop := args = #[.ref b, .int (Int32.ofNat o), .int (Int32.ofNat len)] ∧ Ch b A s ∧ o + len ≤ A.slots.size ∧ len ≤ 536870912 ∧ ∀ i, i < len → ¬ 255 < cv A (o + i)
def E (b : Addr) (A : Cell) (o len : Nat) (r : Option Value) (s u : State) : Prop := NewArr .byte "[B" len (fun j => .int (lo8 (cv A (o + j)))) r s u ∧ u.heap.size = s.heap.size + 1
/-- no char of the range above 255: a new byte[] of their low bytes -/
theorem law (l : Launch) (b : Addr) (A : Cell) (o len : Nat) : Law l yN 3 3 1 18 yB 6 (some (.array .byte)) site (P b A o len) (E b A o len) [] 1 len := by
  refine Law.of_walk (plainFor_of_name (by decide +kernel)) (by decide +kernel) (by decide +kernel) (by decide) (fun _ _ h => by rw [h.1]; rfl) (fun _ U U' hal hh h => ⟨h.1, h.2.1.mv hal hh, h.2.2⟩) (fun r U U' V V' h1 hal h2 h => ⟨NewArr.mv r U U' V V' h1 hal h2 h.1, by rw [h1, h2]; exact h.2⟩) ?_
  intro p e s m args below meth c s₁ X0 hexec hbytes hml hret hlk hnm hown hh0 W hP
  obtain ⟨rfl, hA, l1, l2, hp⟩ := hP
  have a31 := hA.1.2.2.2
  have c1 : Steps p.tables e below (s₁.setTop (entryFrame m #[.ref b, .int (Int32.ofNat o), .int (Int32.ofNat len)] 6)) (s₁.setTop (mkF m 0 #[.val (.ref b), .val (.int (Int32.ofNat o)), .val (.int (Int32.ofNat len)), .unset, .unset, .unset] [])) := entry rfl
  have c2 : Steps p.tables e below (s₁.setTop (entryFrame m #[.ref b, .int (Int32.ofNat o), .int (Int32.ofNat len)] 6)) (s₁.setTop (mkF m 1 #[.val (.ref b), .val (.int (Int32.ofNat o)), .val (.int (Int32.ofNat len)), .unset, .unset, .unset] [.int (Int32.ofNat len)])) := c1.trans (by
    refine XS.iloadN X0.here hexec rfl (hb hbytes d0) rfl ?_
    exact Steps.refl _)
  obtain ⟨T3, B3, X3, ba3, bs3, bv3, bh3, bf3, st3⟩ := X0.anew hexec (atype := .byte) (wk W (.arrayClass .byte)) rfl (by show len * 1 ≤ _; omega) (by omega) (g := (mkF m 1 #[.val (.ref b), .val (.int (Int32.ofNat o)), .val (.int (Int32.ofNat len)), .unset, .unset, .unset] [.int (Int32.ofNat len)])) rfl (hb hbytes d1) (rest := []) rfl (Nat.le_refl _) (by show 0 + len ≤ len; omega)
  rw [hh0] at ba3 st3
  have kp3 : XT.Kept s T3 := (XT.Kept.of_eq hh0).push bh3
  have hA3 := hA.keep X3.warmed.alike (kp3 _ _ hA.1.1)
  have hne : b ≠ s.heap.size := hA.1.ne
  have c4 : Steps p.tables e below (s₁.setTop (entryFrame m #[.ref b, .int (Int32.ofNat o), .int (Int32.ofNat len)] 6)) (T3.setTop (mkF m 3 #[.val (.ref b), .val (.int (Int32.ofNat o)), .val (.int (Int32.ofNat len)), .unset, .unset, .unset] [.ref s.heap.size])) := c2.trans (st3 _ (Steps.refl _))
  have c5 : Steps p.tables e below (s₁.setTop (entryFrame m #[.ref b, .int (Int32.ofNat o), .int (Int32.ofNat len)] 6)) (T3.setTop (mkF m 9 #[.val (.ref b), .val (.int (Int32.ofNat o)), .val (.int (Int32.ofNat len)), .val (.ref s.heap.size), .unset, .unset] [.int (Int32.ofNat len), .int 0, .ref s.heap.size, .int (Int32.ofNat o), .ref b])) := c4.trans (by
    refine XS.astoreN X3.here hexec rfl (hb hbytes d3) rfl rfl rfl ?_
    refine XS.aloadN X3.here hexec rfl (hb hbytes d4) rfl rfl ?_
    refine XS.iloadN X3.here hexec rfl (hb hbytes d5) rfl ?_
    refine XS.aloadN X3.here hexec rfl (hb hbytes d6) rfl rfl ?_
    refine iconstV X3.here hexec rfl 0 (hb hbytes d7) (by decide) ?_
    refine XS.iloadN X3.here hexec rfl (hb hbytes d8) rfl ?_
    exact Steps.refl _)
  obtain ⟨v6, T6, X6, E6, g6⟩ := X3.callS hexec (Cmp5.law l b A s.heap.size B3 o 0 len) hown (wks W (staticW U16 115 Cmp5.yN)) (wk W Cmp5.tab) (W := 0) (Nat.le_of_ble_eq_true rfl) (Nat.le_of_ble_eq_true rfl) (Nat.le_refl _) (by show 0 + len + 0 ≤ len; omega) (g := (mkF m 9 #[.val (.ref b), .val (.int (Int32.ofNat o)), .val (.int (Int32.ofNat len)), .val (.ref s.heap.size), .unset, .unset] [.int (Int32.ofNat len), .int (Int32.ofNat 0), .ref s.heap.size, .int (Int32.ofNat o), .ref b])) rfl (by rw [hml]; rfl) c5 (argsL := [.ref b, .int (Int32.ofNat o), .ref s.heap.size, .int (Int32.ofNat 0), .int (Int32.ofNat len)]) (rest := []) rfl rfl (by show 2 * 0 + 0 ≤ _; decide) (hb hbytes d9) (⟨rfl, hA3, ba3, hne, l1, by rw [bs3]; simp, hp⟩)
  obtain ⟨rfl, B6, p6, f6⟩ := E6
  have c7 : Steps p.tables e below (s₁.setTop (entryFrame m #[.ref b, .int (Int32.ofNat o), .int (Int32.ofNat len)] 6)) (T6.setTop (mkF m 12 #[.val (.ref b), .val (.int (Int32.ofNat o)), .val (.int (Int32.ofNat len)), .val (.ref s.heap.size), .unset, .unset] [.int (Int32.ofNat len)])) := g6
  have c8 : Steps p.tables e below (s₁.setTop (entryFrame m #[.ref b, .int (Int32.ofNat o), .int (Int32.ofNat len)] 6)) (T6.setTop (mkF m 58 #[.val (.ref b), .val (.int (Int32.ofNat o)), .val (.int (Int32.ofNat len)), .val (.ref s.heap.size), .val (.int (Int32.ofNat len)), .unset] [.ref s.heap.size])) := c7.trans (by
    refine XS.istore X6.here hexec rfl (hb hbytes d12) rfl rfl ?_
    refine XS.iload X6.here hexec rfl (hb hbytes d14) rfl ?_
    refine XS.iloadN X6.here hexec rfl (hb hbytes d16) rfl ?_
    refine XS.icmpYes X6.here hexec rfl (pc0 := 17) rfl (hb hbytes d17) rfl (ii_eq_t rfl) (by decide) rfl ?_
    refine XS.aloadN X6.here hexec rfl (hb hbytes d57) rfl rfl ?_
    exact Steps.refl _)
  have X8 := X6.wide (L' := []) (cells' := 1) (slots' := len) (fun x hx hlt => by
    simp only [List.nil_append, copyLocs, List.mem_map, List.mem_range] at hx
    obtain ⟨i, -, rfl⟩ := hx
    exact absurd hlt (Nat.lt_irrefl _)) (Nat.le_refl _) (by omega)
  exact ⟨T6, some (.ref s.heap.size), _, _, _, X8, rfl, rfl, rfl, (fun h => by cases h), ⟨⟨rfl, B6, ba3.like (X3.warmed.alike.symm.trans X6.warmed.alike) p6.1 f6.1 f6.2.1 f6.2.2.1, f6.2.1.trans bv3, by rw [X6.warmed.alike.findClass, f6.1]; exact bf3, by rw [f6.2.2.1, bs3]; simp, fun j hj => by rw [f6.2.2.2 j, if_pos (by omega)]; rfl, kp3.put p6 (Nat.le_refl _)⟩, by rw [p6.2.2, bh3, hh0]; simp⟩, fun fs hl => c8.trans (X8.areturnOut hexec rfl hret rfl (hb hbytes d58) hl)⟩
end Cmp3
namespace CodL
def yN : MethodName := ⟨"java/lang/StringUTF16", "coderFromArrayLen", "([BI)B"⟩
abbrev yB : ByteArray := jdk_52_method_15_code
theorem d0 : decode yB 0 = .ok (.iload_n 1, 1) := by decide +kernel
theorem d1 : decode yB 1 = .ok (.aload_n 0, 1) := by decide +kernel
theorem d2 : decode yB 2 = .ok (.arraylength, 1) := by decide +kernel
theorem d3 : decode yB 3 = .ok (.isub, 1) := by decide +kernel
theorem d4 : decode yB 4 = .ok (.bipush 31, 2) := by decide +kernel
theorem d6 : decode yB 6 = .ok (.iushr, 1) := by decide +kernel
theorem d7 : decode yB 7 = .ok (.i2b, 1) := by decide +kernel
theorem d8 : decode yB 8 = .ok (.ireturn, 1) := by decide +kernel
def site : List Cond := []
def tab : Cond := tabOf yN yB 2 (some .byte) site
def P (d : Addr) (B : Cell) (args : Array Value) (s : State) : Prop := args = #[.ref d, .int (Int32.ofNat B.slots.size)] ∧ Arr .byte d B s
def E (r : Option Value) (s u : State) : Prop := XT.PureE (some (.int 0)) r s u
/-- an array as long as the number of chars: LATIN1 -/
theorem law (l : Launch) (d : Addr) (B : Cell) : Law l yN 2 2 0 0 yB 2 (some .byte) site (P d B) E [] 0 0 := by
  refine Law.of_walk (plainFor_of_name (by decide +kernel)) (by decide +kernel) (by decide +kernel) (by decide) (fun _ _ h => by rw [h.1]; rfl) (fun _ U U' hal hh h => ⟨h.1, h.2.mv hal hh⟩) (fun r U U' V V' h1 hal h2 h => XT.PureE.mv r U U' V V' h1 hal h2 h) ?_
  intro p e s m args below meth c s₁ X0 hexec hbytes hml hret hlk hnm hown hh0 W hP
  obtain ⟨rfl, hB⟩ := hP
  have hB0 := hB.mv X0.warmed.alike hh0
  have c1 : Steps p.tables e below (s₁.setTop (entryFrame m #[.ref d, .int (Int32.ofNat B.slots.size)] 2)) (s₁.setTop (mkF m 0 #[.val (.ref d), .val (.int (Int32.ofNat B.slots.size))] [])) := entry rfl
  have c2 : Steps p.tables e below (s₁.setTop (entryFrame m #[.ref d, .int (Int32.ofNat B.slots.size)] 2)) (s₁.setTop (mkF m 2 #[.val (.ref d), .val (.int (Int32.ofNat B.slots.size))] [.ref d, .int (Int32.ofNat B.slots.size)])) := c1.trans (by
    refine XS.iloadN X0.here hexec rfl (hb hbytes d0) rfl ?_
    refine XS.aloadN X0.here hexec rfl (hb hbytes d1) rfl rfl ?_
    exact Steps.refl _)
  have c3 : Steps p.tables e below (s₁.setTop (entryFrame m #[.ref d, .int (Int32.ofNat B.slots.size)] 2)) (s₁.setTop (mkF m 8 #[.val (.ref d), .val (.int (Int32.ofNat B.slots.size))] [.int (lo8 (ushr (Int32.ofNat B.slots.size - Int32.ofNat B.slots.size) 31))])) := c2.trans (by
    refine X0.alen hexec hB0 rfl rfl (hb hbytes d2) ?_
    refine XS.isub X0.here hexec rfl (hb hbytes d3) rfl ?_
    refine bipushV X0.here hexec rfl 31 (hb hbytes d4) (by decide) ?_
    refine iushr X0.here hexec rfl (hb hbytes d6) rfl ?_
    refine i2b X0.here hexec rfl (hb hbytes d7) rfl ?_
    exact Steps.refl _)
  have e0 : lo8 (ushr (Int32.ofNat B.slots.size - Int32.ofNat B.slots.size) 31) = 0 := by rw [Int32.sub_self]; decide
  rw [e0] at c3
  exact ⟨s₁, some (.int 0), _, _, _, X0, rfl, rfl, rfl, (fun h => by cases h), ⟨rfl, hh0⟩, fun fs hl => c3.trans (X0.ireturnOut hexec hret rfl (Or.inr (Or.inr (Or.inl rfl))) (hb hbytes d8) hl)⟩
end CodL
/-- the String at a is Latin-1 over a new byte[] (the heap's one new cell): the low bytes of the len chars of A from o on; every cell but a is kept -/
def Got (a : Addr) (D : Cell) (fV fC : Field) (A : Cell) (o len : Nat) (r : Option Value) (s u : State) : Prop := r = none ∧ ∃ D' V : Cell, Blank "java/lang/String" a D' u ∧ Same D D' [fV.slot, fC.slot] ∧ D'.slots[fV.slot]? = some (.ref s.heap.size) ∧ D'.slots[fC.slot]? = some (.int 0) ∧ Arr .byte s.heap.size V u ∧ V.vm = .none ∧ u.vm.findClass "[B" = some V.cls ∧ V.slots.size = len ∧ (∀ j, j < len → V.slots[j]? = some (.int (lo8 (cv A (o + j))))) ∧ (∀ (y : Addr) (c : Cell), y ≠ a → s.heap[y]? = some c → u.heap[y]? = some c) ∧ u.heap.size = s.heap.size + 1
theorem Got.mv {a : Addr} {D A : Cell} {fV fC : Field} {o len : Nat} : ∀ r (U U' V V' : State), U'.heap = U.heap → V.vm.Alike V'.vm → V'.heap = V.heap → Got a D fV fC A o len r U V → Got a D fV fC A o len r U' V' :=
  fun r U U' V V' h1 hal h2 ⟨e0, D', X, a1, a2, a3, a4, a5, a6, a7, a8, a9, a10, a11⟩ => ⟨e0, D', X, a1.mv hal h2, a2, by rw [h1]; exact a3, a4, by rw [h1]; exact a5.mv hal h2, a6, by rw [hal.findClass]; exact a7, a8, a9, by rw [h1, h2]; exact a10, by rw [h1, h2]; exact a11⟩
namespace New4
def yN : MethodName := ⟨"java/lang/String", "<init>", "([CIILjava/lang/Void;)V"⟩
abbrev yB : ByteArray := jdk_42_method_149_code
theorem d0 : decode yB 0 = .ok (.aload_n 0, 1) := by decide +kernel
theorem d1 : decode yB 1 = .ok (.invokespecial 1, 3) := by decide +kernel
theorem d4 : decode yB 4 = .ok (.iload_n 3, 1) := by decide +kernel
theorem d5 : decode yB 5 = .ok (.ifCond (.ne) 22, 3) := by decide +kernel
theorem d27 : decode yB 27 = .ok (.getstatic 38, 3) := by decide +kernel
theorem d30 : decode yB 30 = .ok (.ifCond (.eq) 28, 3) := by decide +kernel
theorem d33 : decode yB 33 = .ok (.aload_n 1, 1) := by decide +kernel
theorem d34 : decode yB 34 = .ok (.iload_n 2, 1) := by decide +kernel
theorem d35 : decode yB 35 = .ok (.iload_n 3, 1) := by decide +kernel
theorem d36 : decode yB 36 = .ok (.invokestatic 177, 3) := by decide +kernel
theorem d39 : decode yB 39 = .ok (.astore 5, 2) := by decide +kernel
theorem d41 : decode yB 41 = .ok (.aload_n 0, 1) := by decide +kernel
theorem d42 : decode yB 42 = .ok (.aload 5, 2) := by decide +kernel
theorem d44 : decode yB 44 = .ok (.iload_n 3, 1) := by decide +kernel
theorem d45 : decode yB 45 = .ok (.invokestatic 47, 3) := by decide +kernel
theorem d48 : decode yB 48 = .ok (.putfield 15, 3) := by decide +kernel
theorem d51 : decode yB 51 = .ok (.aload_n 0, 1) := by decide +kernel
theorem d52 : decode yB 52 = .ok (.aload 5, 2) := by decide +kernel
theorem d54 : decode yB 54 = .ok (.putfield 9, 3) := by decide +kernel
theorem d57 : decode yB 57 = .ok (.return_, 1) := by decide +kernel
def site : List Cond := [.fieldLink "java/lang/String" 38 "java/lang/String" "COMPACT_STRINGS" "Z", Cmp3.tab, CodL.tab, .laysFinal "java/lang/String" "java/lang/String" "value" "[B", .fieldLink "java/lang/String" 9 "java/lang/String" "value" "[B", .laysFinal "java/lang/String" "java/lang/String" "coder" "B", .fieldLink "java/lang/String" 15 "java/lang/String" "coder" "B"] ++ objW "java/lang/String" 1 ++ staticW "java/lang/String" 177 Cmp3.yN ++ staticW "java/lang/String" 47 CodL.yN
def tab : Cond := tabOf yN yB 6 none site
def P (a : Addr) (D : Cell) (fV fC : Field) (b : Addr) (A : Cell) (z : Int32) (o len : Nat) (args : Array Value) (s : State) : Prop := args = #[.ref a, .ref b, .int (Int32.ofNat o), .int (Int32.ofNat len), .null] ∧ Blank "java/lang/String" a D s ∧ Found "java/lang/String" "value" "[B" fV s ∧ Found "java/lang/String" "coder" "B" fC s ∧ Ch b A s ∧ StaticIs s "java/lang/String" "COMPACT_STRINGS" "Z" (.int z) ∧ ¬ z = 0 ∧ 0 < len ∧ o + len ≤ A.slots.size ∧ len ≤ 536870912 ∧ ∀ i, i < len → ¬ 255 < cv A (o + i)
def E (a : Addr) (D : Cell) (fV fC : Field) (A : Cell) (o len : Nat) (r : Option Value) (s u : State) : Prop := Got a D fV fC A o len r s u
/-- len > 0, no char of the range above 255: a Latin-1 String of their low bytes -/
theorem law (l : Launch) (a : Addr) (D : Cell) (fV fC : Field) (b : Addr) (A : Cell) (z : Int32) (o len : Nat) : Law l yN 5 4 2 35 yB 6 none site (P a D fV fC b A z o len) (E a D fV fC A o len) [⟨a, fC.slot⟩, ⟨a, fV.slot⟩] 1 len := by
  refine Law.of_walk (plainFor_of_name (by decide +kernel)) (by decide +kernel) (by decide +kernel) (by decide) (fun _ _ h => by rw [h.1]; rfl) (fun _ U U' hal hh h => ⟨h.1, h.2.1.mv hal hh, h.2.2.1.al hal, h.2.2.2.1.al hal, h.2.2.2.2.1.mv hal hh, h.2.2.2.2.2.1.there hal hh, h.2.2.2.2.2.2⟩) (fun r U U' V V' h1 hal h2 h => Got.mv r U U' V V' h1 hal h2 h) ?_
  intro p e s m args below meth c s₁ X0 hexec hbytes hml hret hlk hnm hown hh0 W hP
  obtain ⟨rfl, hB, f1, f2, hA, s1, hz, l0, l1, l2, hp⟩ := hP
  have a31 := hA.1.2.2.2
  have c1 : Steps p.tables e below (s₁.setTop (entryFrame m #[.ref a, .ref b, .int (Int32.ofNat o), .int (Int32.ofNat len), .null] 6)) (s₁.setTop (mkF m 0 #[.val (.ref a), .val (.ref b), .val (.int (Int32.ofNat o)), .val (.int (Int32.ofNat len)), .val .null, .unset] [])) := entry rfl
  have c2 : Steps p.tables e below (s₁.setTop (entryFrame m #[.ref a, .ref b, .int (Int32.ofNat o), .int (Int32.ofNat len), .null] 6)) (s₁.setTop (mkF m 1 #[.val (.ref a), .val (.ref b), .val (.int (Int32.ofNat o)), .val (.int (Int32.ofNat len)), .val .null, .unset] [.ref a])) := c1.trans (by
    refine XS.aloadN X0.here hexec rfl (hb hbytes d0) rfl rfl ?_
    exact Steps.refl _)
  obtain ⟨T3, X3, q3, st3⟩ := X0.oinit hexec hown (wks W (objW "java/lang/String" 1)) (g := (mkF m 1 #[.val (.ref a), .val (.ref b), .val (.int (Int32.ofNat o)), .val (.int (Int32.ofNat len)), .val .null, .unset] [.ref a])) rfl (by rw [hml]; rfl) (rest := []) rfl (hb hbytes d1) (W := 0) (by show 2 * 0 + 0 ≤ _; decide) (Nat.le_of_ble_eq_true rfl) (Nat.le_of_ble_eq_true rfl)
  have hh3 := q3.trans hh0
  have c4 : Steps p.tables e below (s₁.setTop (entryFrame m #[.ref a, .ref b, .int (Int32.ofNat o), .int (Int32.ofNat len), .null] 6)) (T3.setTop (mkF m 27 #[.val (.ref a), .val (.ref b), .val (.int (Int32.ofNat o)), .val (.int (Int32.ofNat len)), .val .null, .unset] [])) := (c2.trans (st3 _ (Steps.refl _))).trans (by
    refine XS.iloadN X3.here hexec rfl (hb hbytes d4) rfl ?_
    refine XS.ifYes X3.here hexec rfl (pc0 := 5) rfl (hb hbytes d5) rfl (i0_ne_t (nz32 (by omega) l0)) (by decide) rfl ?_
    exact Steps.refl _)
  obtain ⟨T5, X5, q5, st5⟩ := X3.sget hexec hown (wk W (.fieldLink "java/lang/String" 38 "java/lang/String" "COMPACT_STRINGS" "Z")) s1 (fun _ _ h => by rw [hh3]; exact h) (g := (mkF m 27 #[.val (.ref a), .val (.ref b), .val (.int (Int32.ofNat o)), .val (.int (Int32.ofNat len)), .val .null, .unset] [])) rfl (hb hbytes d27)
  have hh5 := q5.trans hh3
  have c6 : Steps p.tables e below (s₁.setTop (entryFrame m #[.ref a, .ref b, .int (Int32.ofNat o), .int (Int32.ofNat len), .null] 6)) (T5.setTop (mkF m 30 #[.val (.ref a), .val (.ref b), .val (.int (Int32.ofNat o)), .val (.int (Int32.ofNat len)), .val .null, .unset] [.int z])) := c4.trans (st5 _ (Steps.refl _))
  have c7 : Steps p.tables e below (s₁.setTop (entryFrame m #[.ref a, .ref b, .int (Int32.ofNat o), .int (Int32.ofNat len), .null] 6)) (T5.setTop (mkF m 36 #[.val (.ref a), .val (.ref b), .val (.int (Int32.ofNat o)), .val (.int (Int32.ofNat len)), .val .null, .unset] [.int (Int32.ofNat len), .int (Int32.ofNat o), .ref b])) := c6.trans (by
    refine XS.ifNo X5.here hexec rfl (hb hbytes d30) rfl (i0_eq_f hz) ?_
    refine XS.aloadN X5.here hexec rfl (hb hbytes d33) rfl rfl ?_
    refine XS.iloadN X5.here hexec rfl (hb hbytes d34) rfl ?_
    refine XS.iloadN X5.here hexec rfl (hb hbytes d35) rfl ?_
    exact Steps.refl _)
  obtain ⟨v8, T8, X8, E8, g8⟩ := X5.callS hexec (Cmp3.law l b A o len) hown (wks W (staticW "java/lang/String" 177 Cmp3.yN)) (wk W Cmp3.tab) (W := 0) (Nat.le_of_ble_eq_true rfl) (Nat.le_of_ble_eq_true rfl) (Nat.le_refl _) (by show 0 + len ≤ len; omega) (g := (mkF m 36 #[.val (.ref a), .val (.ref b), .val (.int (Int32.ofNat o)), .val (.int (Int32.ofNat len)), .val .null, .unset] [.int (Int32.ofNat len), .int (Int32.ofNat o), .ref b])) rfl (by rw [hml]; rfl) c7 (argsL := [.ref b, .int (Int32.ofNat o), .int (Int32.ofNat len)]) (rest := []) rfl rfl (by show 2 * 0 + 0 ≤ _; decide) (hb hbytes d36) (⟨rfl, hA.mv X5.warmed.alike hh5, l1, l2, hp⟩)
  obtain ⟨e8, z8⟩ := E8
  obtain ⟨rfl, N, n1, n2, n3, n4, n5, n6⟩ := NewArr.mv _ T5 s _ _ hh5.symm (Vm.Alike.refl _) rfl e8
  rw [hh5] at z8
  have hB1 := hB.keep X8.warmed.alike (n6 _ _ hB.1)
  have hne : s.heap.size ≠ a := (Nat.ne_of_lt (Array.getElem?_eq_some_iff.mp hB.1).1).symm
  have c9 : Steps p.tables e below (s₁.setTop (entryFrame m #[.ref a, .ref b, .int (Int32.ofNat o), .int (Int32.ofNat len), .null] 6)) (T8.setTop (mkF m 39 #[.val (.ref a), .val (.ref b), .val (.int (Int32.ofNat o)), .val (.int (Int32.ofNat len)), .val .null, .unset] [.ref s.heap.size])) := g8
  have c10 : Steps p.tables e below (s₁.setTop (entryFrame m #[.ref a, .ref b, .int (Int32.ofNat o), .int (Int32.ofNat len), .null] 6)) (T8.setTop (mkF m 45 #[.val (.ref a), .val (.ref b), .val (.int (Int32.ofNat o)), .val (.int (Int32.ofNat len)), .val .null, .val (.ref s.heap.size)] [.int (Int32.ofNat N.slots.size), .ref s.heap.size, .ref a])) := by
    have hc : Steps p.tables e below (s₁.setTop (entryFrame m #[.ref a, .ref b, .int (Int32.ofNat o), .int (Int32.ofNat len), .null] 6)) (T8.setTop (mkF m 45 #[.val (.ref a), .val (.ref b), .val (.int (Int32.ofNat o)), .val (.int (Int32.ofNat len)), .val .null, .val (.ref s.heap.size)] [.int (Int32.ofNat len), .ref s.heap.size, .ref a])) := c9.trans (by
      refine XS.astore X8.here hexec rfl (hb hbytes d39) rfl rfl rfl ?_
      refine XS.aloadN X8.here hexec rfl (hb hbytes d41) rfl rfl ?_
      refine XS.aload X8.here hexec rfl (hb hbytes d42) rfl rfl ?_
      refine XS.iloadN X8.here hexec rfl (hb hbytes d44) rfl ?_
      exact Steps.refl _)
    rw [n4]; exact hc
  obtain ⟨v11, T11, X11, E11, g11⟩ := X8.callS hexec (CodL.law l s.heap.size N) hown (wks W (staticW "java/lang/String" 47 CodL.yN)) (wk W CodL.tab) (W := 1) (Nat.le_of_ble_eq_true rfl) (Nat.le_of_ble_eq_true rfl) (Nat.le_refl _) (by show 0 + len + 0 ≤ len; omega) (g := (mkF m 45 #[.val (.ref a), .val (.ref b), .val (.int (Int32.ofNat o)), .val (.int (Int32.ofNat len)), .val .null, .val (.ref s.heap.size)] [.int (Int32.ofNat N.slots.size), .ref s.heap.size, .ref a])) rfl (by rw [hml]; rfl) c10 (argsL := [.ref s.heap.size, .int (Int32.ofNat N.slots.size)]) (rest := [.ref a]) rfl rfl (by show 2 * 0 + (1 + 0) ≤ _; decide) (hb hbytes d45) (⟨rfl, n1⟩)
  obtain ⟨rfl, q11⟩ := E11
  have hB11 := hB1.mv (X8.warmed.alike.symm.trans X11.warmed.alike) q11
  have c12 : Steps p.tables e below (s₁.setTop (entryFrame m #[.ref a, .ref b, .int (Int32.ofNat o), .int (Int32.ofNat len), .null] 6)) (T11.setTop (mkF m 48 #[.val (.ref a), .val (.ref b), .val (.int (Int32.ofNat o)), .val (.int (Int32.ofNat len)), .val .null, .val (.ref s.heap.size)] [.int 0, .ref a])) := g11
  obtain ⟨T13, X13, p13, bl13, sl13, st13⟩ := X11.finit hexec hown (wk W (.fieldLink "java/lang/String" 15 "java/lang/String" "coder" "B")) (Or.inr ⟨_, (wk W (.laysFinal "java/lang/String" "java/lang/String" "coder" "B"))⟩) (Or.inl ⟨rfl, hnm⟩) f2 (Or.inl rfl) hB11 (t := .byte) (by decide +kernel) rfl (g := (mkF m 48 #[.val (.ref a), .val (.ref b), .val (.int (Int32.ofNat o)), .val (.int (Int32.ofNat len)), .val .null, .val (.ref s.heap.size)] [.int 0, .ref a])) rfl (rest := []) rfl (hb hbytes d48)
  have c14 : Steps p.tables e below (s₁.setTop (entryFrame m #[.ref a, .ref b, .int (Int32.ofNat o), .int (Int32.ofNat len), .null] 6)) (T13.setTop (mkF m 54 #[.val (.ref a), .val (.ref b), .val (.int (Int32.ofNat o)), .val (.int (Int32.ofNat len)), .val .null, .val (.ref s.heap.size)] [.ref s.heap.size, .ref a])) := (c12.trans (st13 _ (Steps.refl _))).trans (by
    refine XS.aloadN X13.here hexec rfl (hb hbytes d51) rfl rfl ?_
    refine XS.aload X13.here hexec rfl (hb hbytes d52) rfl rfl ?_
    exact Steps.refl _)
  obtain ⟨T15, X15, p15, bl15, sl15, st15⟩ := X13.finit hexec hown (wk W (.fieldLink "java/lang/String" 9 "java/lang/String" "value" "[B")) (Or.inr ⟨_, (wk W (.laysFinal "java/lang/String" "java/lang/String" "value" "[B"))⟩) (Or.inl ⟨rfl, hnm⟩) f1 (Or.inl rfl) bl13 (t := (.array .byte)) (by decide +kernel) rfl (g := (mkF m 54 #[.val (.ref a), .val (.ref b), .val (.int (Int32.ofNat o)), .val (.int (Int32.ofNat len)), .val .null, .val (.ref s.heap.size)] [.ref s.heap.size, .ref a])) rfl (rest := []) rfl (hb hbytes d54)
  have c16 : Steps p.tables e below (s₁.setTop (entryFrame m #[.ref a, .ref b, .int (Int32.ofNat o), .int (Int32.ofNat len), .null] 6)) (T15.setTop (mkF m 57 #[.val (.ref a), .val (.ref b), .val (.int (Int32.ofNat o)), .val (.int (Int32.ofNat len)), .val .null, .val (.ref s.heap.size)] [])) := c14.trans (st15 _ (Steps.refl _))
  have ap := apart (Or.inr ⟨_, (wk W (.laysFinal "java/lang/String" "java/lang/String" "value" "[B"))⟩) (Or.inr ⟨_, (wk W (.laysFinal "java/lang/String" "java/lang/String" "coder" "B"))⟩) f1 f2 (t₁ := .array .byte) (t₂ := .byte) (by decide +kernel) (by decide +kernel) (by decide)
  have al := X8.warmed.alike.symm.trans X15.warmed.alike
  have n7 : T11.heap[s.heap.size]? = some N := by rw [q11]; exact n1.1
  exact ⟨T15, none, _, _, _, X15, by simp, rfl, by omega, (fun _ => rfl), ⟨rfl, _, N, bl15, ((Same.refl D _).set _ (by simp)).set _ (by simp), sl15, (Cell.slots_setSlot_ne _ ap).trans sl13, n1.keep al (p15.other hne (p13.other hne n7)), n2, by rw [al.findClass]; exact n3, n4, n5, fun y c h1 h2 => p15.other h1 (p13.other h1 (by rw [q11]; exact n6 y c h2)), by rw [p15.2.2, p13.2.2, q11]; exact z8⟩, fun fs hl => c16.trans (X15.returnOut hexec hret (hb hbytes d57) hl)⟩
end New4
namespace New1
def yN : MethodName := ⟨"java/lang/String", "<init>", "([C)V"⟩
abbrev yB : ByteArray := jdk_42_method_3_code
theorem d0 : decode yB 0 = .ok (.aload_n 0, 1) := by decide +kernel
theorem d1 : decode yB 1 = .ok (.aload_n 1, 1) := by decide +kernel
theorem d2 : decode yB 2 = .ok (.iconst 0, 1) := by decide +kernel
theorem d3 : decode yB 3 = .ok (.aload_n 1, 1) := by decide +kernel
theorem d4 : decode yB 4 = .ok (.arraylength, 1) := by decide +kernel
theorem d5 : decode yB 5 = .ok (.aconst_null, 1) := by decide +kernel
theorem d6 : decode yB 6 = .ok (.invokespecial 27, 3) := by decide +kernel
theorem d9 : decode yB 9 = .ok (.return_, 1) := by decide +kernel
def site : List Cond := [New4.tab] ++ initW "java/lang/String" 27 New4.yN
def tab : Cond := tabOf yN yB 2 none site
def P (a : Addr) (D : Cell) (fV fC : Field) (b : Addr) (A : Cell) (z : Int32) (args : Array Value) (s : State) : Prop := args = #[.ref a, .ref b] ∧ Blank "java/lang/String" a D s ∧ Found "java/lang/String" "value" "[B" fV s ∧ Found "java/lang/String" "coder" "B" fC s ∧ Ch b A s ∧ StaticIs s "java/lang/String" "COMPACT_STRINGS" "Z" (.int z) ∧ ¬ z = 0 ∧ 0 < A.slots.size ∧ A.slots.size ≤ 536870912 ∧ ∀ i, i < A.slots.size → ¬ 255 < cv A i
def E (a : Addr) (D : Cell) (fV fC : Field) (A : Cell) (r : Option Value) (s u : State) : Prop := Got a D fV fC A 0 A.slots.size r s u
/-- new String(chars), not empty, no char above 255: a Latin-1 String of their low bytes -/
theorem law (l : Launch) (a : Addr) (D : Cell) (fV fC : Field) (b : Addr) (A : Cell) (z : Int32) : Law l yN 2 1 3 52 yB 2 none site (P a D fV fC b A z) (E a D fV fC A) [⟨a, fC.slot⟩, ⟨a, fV.slot⟩] 1 A.slots.size := by
  refine Law.of_walk (plainFor_of_name (by decide +kernel)) (by decide +kernel) (by decide +kernel) (by decide) (fun _ _ h => by rw [h.1]; rfl) (fun _ U U' hal hh h => ⟨h.1, h.2.1.mv hal hh, h.2.2.1.al hal, h.2.2.2.1.al hal, h.2.2.2.2.1.mv hal hh, h.2.2.2.2.2.1.there hal hh, h.2.2.2.2.2.2⟩) (fun r U U' V V' h1 hal h2 h => Got.mv r U U' V V' h1 hal h2 h) ?_
  intro p e s m args below meth c s₁ X0 hexec hbytes hml hret hlk hnm hown hh0 W hP
  obtain ⟨rfl, hB, f1, f2, hA, s1, hz, l0, l2, hp⟩ := hP
  have c1 : Steps p.tables e below (s₁.setTop (entryFrame m #[.ref a, .ref b] 2)) (s₁.setTop (mkF m 0 #[.val (.ref a), .val (.ref b)] [])) := entry rfl
  have c2 : Steps p.tables e below (s₁.setTop (entryFrame m #[.ref a, .ref b] 2)) (s₁.setTop (mkF m 6 #[.val (.ref a), .val (.ref b)] [.null, .int (Int32.ofNat A.slots.size), .int 0, .ref b, .ref a])) := c1.trans (by
    refine XS.aloadN X0.here hexec rfl (hb hbytes d0) rfl rfl ?_
    refine XS.aloadN X0.here hexec rfl (hb hbytes d1) rfl rfl ?_
    refine iconstV X0.here hexec rfl 0 (hb hbytes d2) (by decide) ?_
    refine XS.aloadN X0.here hexec rfl (hb hbytes d3) rfl rfl ?_
    refine X0.alen hexec (hA.1.mv X0.warmed.alike hh0) rfl rfl (hb hbytes d4) ?_
    refine XS.aconstNull X0.here hexec rfl (hb hbytes d5) ?_
    exact Steps.refl _)
  obtain ⟨v3, T3, X3, E3, g3⟩ := X0.callN hexec (New4.law l a D fV fC b A z 0 A.slots.size) rfl hown (wks W (initW "java/lang/String" 27 New4.yN)) (W New4.tab (by simp only [site, List.mem_cons, List.mem_append, true_or, or_true])) (W := 0) (Nat.le_of_ble_eq_true rfl) (Nat.le_of_ble_eq_true rfl) (Nat.le_refl _) (by show 0 + A.slots.size ≤ A.slots.size; omega) (g := (mkF m 6 #[.val (.ref a), .val (.ref b)] [.null, .int (Int32.ofNat A.slots.size), .int (Int32.ofNat 0), .ref b, .ref a])) rfl (by rw [hml]; rfl) c2 (argsL := [.ref b, .int (Int32.ofNat 0), .int (Int32.ofNat A.slots.size), .null]) (rest := []) rfl rfl (by show 2 * 0 + 0 ≤ _; decide) (hb hbytes d6) (⟨rfl, hB.mv X0.warmed.alike hh0, f1.al X0.warmed.alike, f2.al X0.warmed.alike, hA.mv X0.warmed.alike hh0, s1.there X0.warmed.alike hh0, hz, l0, by omega, l2, fun i hi => by rw [Nat.zero_add]; exact hp i hi⟩)
  have e0 := Got.mv _ s₁ s _ _ hh0.symm (Vm.Alike.refl _) rfl E3
  obtain rfl := e0.1
  have c4 : Steps p.tables e below (s₁.setTop (entryFrame m #[.ref a, .ref b] 2)) (T3.setTop (mkF m 9 #[.val (.ref a), .val (.ref b)] [])) := g3
  exact ⟨T3, none, _, _, _, X3, by simp, rfl, by omega, (fun _ => rfl), e0, fun fs hl => c4.trans (X3.returnOut hexec hret (hb hbytes d9) hl)⟩
theorem pays {l : Launch} {R : Room} {p : Program} {e : Env} {below : List Frame} {s : State} {sargs : Array Value} {len W : Nat} (a : Addr) (D : Cell) (fV fC : Field) (b : Addr) (A : Cell) (z : Int32) (htab : tab.before sargs s = true) (hfr : 4 ≤ R.frames) (hlo : W + 65 ≤ R.locals) :
    Back l R p e below s sargs yN len W (fun A₁ a₁ => A₁.cells + 1 ≤ R.cells ∧ A₁.slots + A.slots.size ≤ R.slots ∧ P a D fV fC b A z a₁ A₁.U) (fun A₁ _ v₁ B₁ => E a D fV fC A v₁ A₁.U B₁.U ∧ B₁.locs = A₁.locs ++ [⟨a, fC.slot⟩, ⟨a, fV.slot⟩] ∧ B₁.cells = A₁.cells + 1 ∧ B₁.slots = A₁.slots + A.slots.size) :=
  (law l a D fV fC b A z).pays htab hfr (by omega)
end New1
end StrChars
namespace StrChars.Road
open Jvm Sem ClassFile Op Lib Jvm.Stand Jvm.Free Jvm.Free.XT
open Jvm.Lib.Cold (StaticIs)
abbrev ST : String := "java/lang/String"
/-- every table word that New1's law asks, flat -/
abbrev words : List Jvm.Cond := [.code New1.yN New1.yB 2 none, .initialized ST, .methodLink ST 27 New4.yN, .instanceMethod New4.yN,
  .code New4.yN New4.yB 6 none, .fieldLink ST 38 ST "COMPACT_STRINGS" "Z", .laysFinal ST ST "value" "[B", .fieldLink ST 9 ST "value" "[B", .laysFinal ST ST "coder" "B", .fieldLink ST 15 ST "coder" "B",
  .methodLink ST 1 Lib.objectInit, .instanceMethod Lib.objectInit, .code Lib.objectInit ⟨#[0xb1]⟩ 1 none, .methodLink ST 177 Cmp3.yN, .static Cmp3.yN, .methodLink ST 47 CodL.yN, .static CodL.yN,
  .code Cmp3.yN Cmp3.yB 6 (some (.array .byte)), .initialized U16, .arrayClass .byte, .methodLink U16 115 Cmp5.yN, .static Cmp5.yN, .code Cmp5.yN Cmp5.yB 7 (some .int), .code CodL.yN CodL.yB 2 (some .byte)]
theorem tab_of {a : Array Value} {s : State} (h : ∀ w ∈ words, w.before a s = true) : New1.tab.before a s = true := by
  have h5 : Cmp5.tab.before a s = true := unparts (wk h (.code Cmp5.yN Cmp5.yB 7 (some .int))) (wks h (.initialized Cmp5.yN.cls :: Cmp5.site))
  have hc : CodL.tab.before a s = true := unparts (wk h (.code CodL.yN CodL.yB 2 (some .byte))) (wks h (.initialized CodL.yN.cls :: CodL.site))
  have q5 : ∀ w ∈ Cmp5.tab :: words, w.before a s = true := fun w hw => (List.mem_cons.mp hw).elim (fun e => e ▸ h5) (h w)
  have h3 : Cmp3.tab.before a s = true := unparts (wk q5 (.code Cmp3.yN Cmp3.yB 6 (some (.array .byte)))) (wks q5 (.initialized Cmp3.yN.cls :: Cmp3.site))
  have q3 : ∀ w ∈ Cmp3.tab :: CodL.tab :: words, w.before a s = true := fun w hw => (List.mem_cons.mp hw).elim (fun e => e ▸ h3) fun hw => (List.mem_cons.mp hw).elim (fun e => e ▸ hc) (h w)
  have h4 : New4.tab.before a s = true := unparts (wk q3 (.code New4.yN New4.yB 6 none)) (wks q3 (.initialized New4.yN.cls :: New4.site))
  have q4 : ∀ w ∈ New4.tab :: words, w.before a s = true := fun w hw => (List.mem_cons.mp hw).elim (fun e => e ▸ h4) (h w)
  exact unparts (wk q4 (.code New1.yN New1.yB 2 none)) (wks q4 (.initialized New1.yN.cls :: New1.site))
/-- the words ride from the start Z to the walk's own state -/
theorem moved {Z s : State} {a0 args : Array Value} (hZ : Z.Warmed39 s.vm) (hw : ∀ d ∈ words, d.before a0 Z = true) : ∀ d ∈ words, d.before args s = true := fun d hd => by
  have q := hw d hd
  have t : ∀ d ∈ words, d = .arrayClass .byte ∨ (d.onTables && d.keepsFace) = true := by decide +kernel
  rcases t d hd with rfl | t
  · exact RoadKit.mvA hZ q
  · exact RoadKit.mv hZ q t
/-- WHAT COMES BACK, over the tables of the start Z: h the heap at the call, h' behind it -/
def Q (Z : State) (x : Addr) (A : Cell) (h : Heap) (v : Option Value) (h' : Heap) (L : List Loc) : Prop := v = none ∧ (∀ y ∈ L, y.base = x) ∧ RoadKit.Keep h h' [x] ∧ h'.size = h.size + 1 ∧ RoadKit.Exa Z h' x ST ∧ RoadKit.Fld Z h' x ST "value" "[B" (.ref h.size) ∧ RoadKit.Fld Z h' x ST "coder" "B" (.int 0) ∧
  (∃ V : Cell, RoadKit.Arr Z h' h.size V .byte ∧ V.vm = .none ∧ Z.vm.findClass "[B" = some V.cls ∧ V.slots.size = A.slots.size ∧ ∀ j, j < A.slots.size → V.slots[j]? = some (.int (lo8 (cv A j)))) ∧
  ∀ (O n d : String) (w : Value), RoadKit.Fld Z h x O n d w → RoadKit.slotOf Z O n d ≠ RoadKit.slotOf Z ST "value" "[B" → RoadKit.slotOf Z O n d ≠ RoadKit.slotOf Z ST "coder" "B" → RoadKit.Fld Z h' x O n d w
/-- **new String(chars) AT A CALL, IN THE ROAD'S FORM**: for specialBack behind newO: x the fresh String, b the char[] with the cell A -/
theorem back {p : Program} {l : Launch} {e : Env} {R : Room} {s : State} {args : Array Value} {below : List Frame} {len W : Nat} {Z : State} {a0 : Array Value} {h : Heap} (hZ : Z.Warmed39 s.vm) (hw : ∀ d ∈ words, d.before a0 Z = true) {kI : Nat} (wi : (Jvm.Cond.instantiable ST kI).before a0 Z = true)
    {x b : Addr} {A : Cell} {z : Int32} {v0 c0 : Value} (E : RoadKit.Exa Z h x ST) (V : RoadKit.Fld Z h x ST "value" "[B" v0) (C : RoadKit.Fld Z h x ST "coder" "B" c0) (K : RoadKit.Arr Z h b A .char) (hty : Typed .char A) (S : RoadKit.Sta Z h ST "COMPACT_STRINGS" "Z" (.int z)) (hz : ¬ z = 0)
    (l0 : 0 < A.slots.size) (l2 : A.slots.size ≤ 536870912) (hp : ∀ i, i < A.slots.size → ¬ 255 < cv A i) (hfr : 4 ≤ R.frames) (hlo : W + 65 ≤ R.locals) :
    Back l R p e below s args New1.yN len W (fun P a => a = #[.ref x, .ref b] ∧ P.U.heap = h ∧ P.cells + 1 ≤ R.cells ∧ P.slots + A.slots.size ≤ R.slots)
      (fun P _ v B => ∃ L, Q Z x A h v B.U.heap L ∧ B.locs = P.locs ++ L ∧ B.cells = P.cells + 1 ∧ B.slots = P.slots + A.slots.size) := by
  intro m meth c P g ig mk a X hg hsize hdg hW hn hp'
  obtain ⟨rfl, rfl, r1, r2⟩ := hp'
  have al : Z.vm.Alike P.U.vm := hZ.alike.trans X.warmed.alike
  obtain ⟨D, cfV, kV, iV, fV, hD, gV, stV, knV, obV, asV, slV⟩ := id V
  obtain ⟨D', cfC, kC, iC, fC, hD', gC, stC, -, -, asC, slC⟩ := id C
  cases hD.symm.trans hD'
  obtain ⟨D2, kD, e1, e2, e3, e4, e5⟩ := id E
  cases hD.symm.trans e1
  obtain ⟨c2, k2, i1, i2, i3, -⟩ := Cond.instantiable_spec wi
  cases e2.symm.trans i1
  cases e3.symm.trans i2
  obtain ⟨kU, u1, u2⟩ := al.2.2 _ _ e3
  have hB : Blank ST x D P.U := ⟨hD, ⟨knV, fun q hq => by rw [hq] at obV; cases obV⟩, by rw [al.findClass]; exact e2, kU, u1, by rw [u2]; exact i3, by rw [u2]; exact e5 i3⟩
  have F1 : Found ST "value" "[B" fV P.U := ⟨SBG.found_only al ⟨cfV, kV, iV, gV⟩, stV⟩
  have F2 : Found ST "coder" "B" fC P.U := ⟨SBG.found_only al ⟨cfC, kC, iC, gC⟩, stC⟩
  have hA : Ch b A P.U := ⟨⟨K.1, State.isArrayOf_alike al K.2.1, K.2.2, by omega⟩, hty⟩
  have hS : StaticIs P.U ST "COMPACT_STRINGS" "Z" (.int z) := by
    obtain ⟨cfS, iS, kS, fS, st, cS, t1, t2, t3, t4, t5, t6, t7⟩ := S
    exact StaticIs.there (s := { Z with heap := P.U.heap }) ⟨cfS, iS, kS, fS, st, cS, t1, t2, t3, t4, t5, (fun q => by rw [q] at t6; cases t6), t7⟩ al rfl
  obtain ⟨v, B, X', ⟨⟨hv, E', V', q1, q2, q3, q4, q5, q6, q7, q8, q9, q10, q11⟩, hl, hc, hs⟩, st⟩ := New1.pays x D fV fC b A z (tab_of (moved hZ hw)) hfr hlo m meth c P g ig mk _ X hg hsize hdg hW hn ⟨r1, r2, rfl, hB, F1, F2, hA, hS, hz, l0, l2, hp⟩
  have al' : Z.vm.Alike B.U.vm := hZ.alike.trans X'.warmed.alike
  have hsz : E'.slots.size = D.slots.size := by
    obtain ⟨-, -, -, kB, w1, w2, w3⟩ := q1
    obtain ⟨kB', y1, y2⟩ := al'.2.2 _ _ e3
    rw [q2.2.1] at w1
    cases w1.symm.trans y1
    rw [w3, e5 i3, y2]
  refine ⟨v, B, X', ⟨_, ⟨hv, ?_, ⟨by omega, fun y cy hy hn' => q10 y cy (by simpa using hn') hy, fun y cy hy => ?_⟩, q11, ⟨E', _, q1.1, by rw [q2.2.1]; exact e2, by rw [q2.2.1]; exact e3, by rw [q2.1]; exact obV, fun _ => by rw [hsz]; exact e5 i3⟩,
    ⟨E', cfV, kV, iV, fV, q1.1, gV, stV, by rw [q2.1]; exact knV, by rw [q2.1]; exact obV, by rw [q2.2.1]; exact asV, q3⟩, ⟨E', cfC, kC, iC, fC, q1.1, gC, stC, by rw [q2.1]; exact knV, by rw [q2.1]; exact obV, by rw [q2.2.1]; exact asC, q4⟩,
    ⟨V', ⟨q5.1, State.isArrayOf_alike al'.symm q5.2.1, q5.2.2.1⟩, q6, by rw [← al'.findClass]; exact q7, q8, fun j hj => by have := q9 j hj; rwa [Nat.zero_add] at this⟩, fun O n d w F n1 n2 => ?_⟩, hl, hc, hs⟩, st⟩
  · intro y hy
    simp only [List.mem_cons, List.not_mem_nil, or_false] at hy
    rcases hy with rfl | rfl <;> rfl
  · by_cases q : y = x
    · subst q
      cases hD.symm.trans hy
      exact ⟨E', q1.1, q2.2.1, q2.1, hsz⟩
    · exact ⟨cy, q10 y cy q hy, rfl, rfl, rfl⟩
  · obtain ⟨D3, cf, k, i, f, g1, g2, g3, g4, g5, g6, g7⟩ := F
    cases hD.symm.trans g1
    simp only [RoadKit.slotOf, g2, gV, gC, Option.map_some, Option.getD_some] at n1 n2
    exact ⟨E', cf, k, i, f, q1.1, g2, g3, by rw [q2.1]; exact g4, by rw [q2.1]; exact g5, by rw [q2.2.1]; exact g6, by rw [q2.2.2 f.slot (by simp [n1, n2])]; exact g7⟩
end StrChars.Road
namespace StrChars.Road
open Jvm Sem ClassFile Op Lib Jvm.Stand Jvm.Free Jvm.Free.XT
/-- WHAT COMES BACK, the byte[] as a list of values -/
def QA (Z : State) (x : Addr) (zn : Int32) (cs : List Int32) (h : Heap) (v : Option Value) (h' : Heap) (L : List Loc) : Prop := v = none ∧ (∀ y ∈ L, y.base = x) ∧ RoadKit.Keep h h' [x] ∧ h'.size = h.size + 1 ∧ RoadKit.Exa Z h' x ST ∧ RoadKit.Fld Z h' x ST "value" "[B" (.ref h.size) ∧ RoadKit.Fld Z h' x ST "coder" "B" (.int 0) ∧
  (∃ kb, Z.vm.findClass "[B" = some kb ∧ RoadKit.Arv Z h' h.size kb .byte zn (cs.map fun c => .int (lo8 c)) (.int 0)) ∧
  ∀ (O n d : String) (w : Value), RoadKit.Fld Z h x O n d w → RoadKit.slotOf Z O n d ≠ RoadKit.slotOf Z ST "value" "[B" → RoadKit.slotOf Z O n d ≠ RoadKit.slotOf Z ST "coder" "B" → RoadKit.Fld Z h' x O n d w
/-- **new String(chars) AT A CALL, THE ARRAYS AS LISTS**: the char[] at b holds cs, not empty, no char above 255 -/
theorem backArv {p : Program} {l : Launch} {e : Env} {R : Room} {s : State} {args : Array Value} {below : List Frame} {len W : Nat} {Z : State} {a0 : Array Value} {h : Heap} (hZ : Z.Warmed39 s.vm) (hw : ∀ d ∈ words, d.before a0 Z = true) {kI : Nat} (wi : (Jvm.Cond.instantiable ST kI).before a0 Z = true)
    {x b : Addr} {k : ClassId} {zn z : Int32} {cs : List Int32} {dv v0 c0 : Value} (E : RoadKit.Exa Z h x ST) (V : RoadKit.Fld Z h x ST "value" "[B" v0) (C : RoadKit.Fld Z h x ST "coder" "B" c0) (K : RoadKit.Arv Z h b k .char zn (cs.map Value.int) dv) (S : RoadKit.Sta Z h ST "COMPACT_STRINGS" "Z" (.int z)) (hz : ¬ z = 0)
    (hlen : zn.toNatClampNeg = cs.length) (h0 : 0 < cs.length) (hbig : cs.length ≤ 536870912) (hall : ∀ c ∈ cs, ¬ 255 < c) (hfr : 4 ≤ R.frames) (hlo : W + 65 ≤ R.locals) :
    Back l R p e below s args New1.yN len W (fun P a => a = #[.ref x, .ref b] ∧ P.U.heap = h ∧ P.cells + 1 ≤ R.cells ∧ P.slots + cs.length ≤ R.slots)
      (fun P _ v B => ∃ L, QA Z x zn cs h v B.U.heap L ∧ B.locs = P.locs ++ L ∧ B.cells = P.cells + 1 ∧ B.slots = P.slots + cs.length) := by
  obtain ⟨A, K1, K2, K3, K4, K5, K6⟩ := K
  have e : A.slots.size = cs.length := K3.trans hlen
  have hat : ∀ (i : Nat) (hi : i < cs.length), A.slots[i]? = some (.int cs[i]) := fun i hi => by rw [K5 i (by omega)]; simp [List.getD_eq_getElem?_getD, hi]
  have hcv : ∀ (i : Nat) (hi : i < cs.length), cv A i = cs[i] := fun i hi => by unfold cv; rw [hat i hi]
  have hty : Typed .char A := fun i v hv => by
    have hi : i < A.slots.size := (Array.getElem?_eq_some_iff.mp hv).1
    have q := K5 i hi
    rw [hv] at q
    rw [Option.some.inj q]
    exact K6 i hi
  refine Back.mono (back hZ hw wi E V C K1 hty S hz (by omega) (by omega) (fun i hi => by rw [hcv i (by omega)]; exact hall _ (List.getElem_mem _)) hfr hlo) (fun P a hp => ⟨hp.1, hp.2.1, hp.2.2.1, by rw [e]; exact hp.2.2.2⟩) (fun P a v B hp hq => ?_)
  obtain ⟨L, ⟨q1, q2, q3, q4, q5, q6, q7, ⟨V', v1, v2, v3, v4, v5⟩, q9⟩, hl, hc, hs⟩ := hq
  refine ⟨L, ⟨q1, q2, q3, q4, q5, q6, q7, ⟨V'.cls, v3, V', v1, rfl, by rw [v4, e, hlen], K4, fun i hi => ?_, fun i hi => ?_⟩, q9⟩, hl, hc, by rw [hs, e]⟩
  · have hi' : i < cs.length := by omega
    rw [v5 i (by omega), hcv i hi']; simp [List.getD_eq_getElem?_getD, hi']
  · have hi' : i < cs.length := by omega
    simp only [List.getD_eq_getElem?_getD, List.getElem?_map, List.getElem?_eq_getElem hi', Option.map_some, Option.getD_some]
    exact fits_lo8 _
end StrChars.Road
namespace StrChars.Road
open Jvm Sem ClassFile Op Lib Jvm.Stand Jvm.Free Jvm.Free.XT
/-- WHAT COMES BACK, in the writer's own shape -/
def QV (Z : State) (x : Addr) (N : Int32) (bs : List Int32) (h : Heap) (n0 : Nat) (v : Option Value) (h' : Heap) (L : List Loc) : Prop := v = none ∧ RoadKit.Fr n0 L ∧ RoadKit.Keep h h' [x] ∧ RoadKit.Exa Z h' x ST ∧ RoadKit.Fld Z h' x ST "coder" "B" (.int 0) ∧
  ∃ (t : Addr) (kb : ClassId), n0 ≤ t ∧ h.size ≤ t ∧ ¬ t = x ∧ RoadKit.Fld Z h' x ST "value" "[B" (.ref t) ∧ RoadKit.Arv Z h' t kb .byte N (bs.map Value.int) (.int 0)
/-- **new String(chars) AT A CALL, FOR THE WRITER**: a char[] of n known ints, each 0 to 255 -/
theorem backV {p : Program} {l : Launch} {e : Env} {R : Room} {s : State} {args : Array Value} {below : List Frame} {len W : Nat} {Z : State} {a0 : Array Value} {h : Heap} (hZ : Z.Warmed39 s.vm) (hw : ∀ d ∈ words, d.before a0 Z = true) {kI : Nat} (wi : (Jvm.Cond.instantiable ST kI).before a0 Z = true)
    {x b : Addr} {kC : ClassId} {cs bs : List Int32} {d v0 c0 : Value} {z N : Int32} {n n0 : Nat} (hx0 : n0 ≤ x) (hh0 : n0 ≤ h.size) (E : RoadKit.Exa Z h x ST) (V : RoadKit.Fld Z h x ST "value" "[B" v0) (C : RoadKit.Fld Z h x ST "coder" "B" c0) (K : RoadKit.Arv Z h b kC .char N (cs.map Value.int) d) (S : RoadKit.Sta Z h ST "COMPACT_STRINGS" "Z" (.int z)) (hz : ¬ z = 0)
    (hn : cs.length = n) (hN : N = Int32.ofNat n) (l0 : 0 < n) (l2 : n ≤ 4000) (hp : ∀ c ∈ cs, ¬ c < 0 ∧ ¬ (255 : Int32) < c) (hb : bs = cs.map (fun c => c.toInt8.toInt32)) (hfr : 4 ≤ R.frames) (hlo : W + 65 ≤ R.locals) :
    Back l R p e below s args (⟨"java/lang/String", "<init>", "([C)V"⟩ : MethodName) len W (fun P a => a = #[.ref x, .ref b] ∧ P.U.heap = h ∧ P.cells + 1 ≤ R.cells ∧ P.slots + n ≤ R.slots)
      (fun P _ v B => ∃ L, QV Z x N bs h n0 v B.U.heap L ∧ B.locs = P.locs ++ L ∧ B.cells = P.cells + 1 ∧ B.slots = P.slots + n) := by
  subst hn hN hb
  refine Back.mono (backArv hZ hw wi E V C K S hz (n32 (by omega)) l0 (by omega) (fun c hc => (hp c hc).2) hfr hlo) (fun P a hp => hp) (fun P a v B hp hq => ?_)
  obtain ⟨L, ⟨q1, q2, q3, q4, q5, q6, q7, ⟨kb, v1, v2⟩, q9⟩, hl, hc, hs⟩ := hq
  exact ⟨L, ⟨q1, fun y hy => by rw [q2 y hy]; exact hx0, q3, q5, q7, h.size, kb, hh0, Nat.le_refl _, Nat.ne_of_gt E.lt, q6, by rw [List.map_map]; exact v2⟩, hl, hc, hs⟩
end StrChars.Road
end Jvm.Pilot.@@N@@
namespace Jvm.Pilot.@@N@@
open Jvm Jvm.ClassFile Sem Op Lib Jvm.Free Jvm.Stand Jvm.LawKit Jvm.RoadKit Bundle Jvm.Pilot.@@N@@.Jvm.D
/-- from S the run ends, in a state and with an outcome of which P holds -/
def OGo (p : Program) (e : Env) (below : List Frame) (P : State → Outcome → Prop) (S : State) : Prop :=
  ∃ s₂ o, Steps p.tables e below S s₂ ∧ s₂.status = .running ∧ Ended s₂ below o ∧ P s₂ o
theorem OGo.by {p : Program} {e : Env} {below : List Frame} {P : State → Outcome → Prop} {S S' : State} (h : ∀ t, Steps p.tables e below S' t → Steps p.tables e below S t) (g : OGo p e below P S') : OGo p e below P S := by
  obtain ⟨s₂, o, h1, h2⟩ := g; exact ⟨s₂, o, h _ h1, h2⟩
theorem OGo.of {p : Program} {e : Env} {below : List Frame} {P : State → Outcome → Prop} {S S' : State} (h : Steps p.tables e below S S') (g : OGo p e below P S') : OGo p e below P S := by
  obtain ⟨s₂, o, h1, h2⟩ := g; exact ⟨s₂, o, h.trans h1, h2⟩
theorem OGo.ret {p : Program} {e : Env} {below : List Frame} {P : State → Outcome → Prop} {S S' : State} {o : Outcome} (h : Steps p.tables e below S S') (h1 : S'.status = .running) (h2 : Ended S' below o) (h3 : P S' o) : OGo p e below P S := ⟨S', o, h, h1, h2, h3⟩
theorem own_eqI {args : Array Value} {first s : State} {o : Option Outcome} {idx : List Nat} {t : Term} {n : Int32} (h : (Jvm.Cond.eq t (.int n)).value args first o s idx = some true) : t.eval args first o idx s = some (.int n) := by
  obtain ⟨x, y, h1, h2, -, k⟩ := cmp_v (Or.inl h)
  obtain rfl : y = .int n := (Option.some.inj (h2.symm.trans (Term.int_eval n)))
  obtain ⟨z, rfl⟩ := k
  have q := gotT (Cond.eq_ints h1 h2) h
  rw [h1, q]
theorem and255_chars (x : Int32) : ¬ nar .char ((x &&& (255 : Int32)).toUInt32.toUInt16.toUInt32.toInt32) < 0 ∧ ¬ (255 : Int32) < nar .char ((x &&& (255 : Int32)).toUInt32.toUInt16.toUInt32.toInt32) := by
  have t : ∀ k : Fin 256, ¬ nar .char ((Int32.ofNat k.val).toUInt32.toUInt16.toUInt32.toInt32) < 0 ∧ ¬ (255 : Int32) < nar .char ((Int32.ofNat k.val).toUInt32.toUInt16.toUInt32.toInt32) := by decide +kernel
  have h : (x &&& 255).toBitVec.toNat < 256 := by
    simp only [Int32.toBitVec_and, BitVec.toNat_and]
    exact Nat.lt_succ_of_le Nat.and_le_right
  have e : (x &&& 255) = Int32.ofNat (x &&& 255).toBitVec.toNat := by
    apply Int32.toBitVec_inj.mp
    show _ = BitVec.ofNat 32 _
    rw [BitVec.ofNat_toNat]; simp
  rw [e]
  exact t ⟨_, h⟩
theorem d7_0 : decode prog_3_method_7_code 0 = .ok (.lload_n 2, 1) := by decide +kernel
theorem d7_1 : decode prog_3_method_7_code 1 = .ok (.aload_n 0, 1) := by decide +kernel
theorem d7_2 : decode prog_3_method_7_code 2 = .ok (.getfield 46, 3) := by decide +kernel
theorem d7_5 : decode prog_3_method_7_code 5 = .ok (.i2l, 1) := by decide +kernel
theorem d7_6 : decode prog_3_method_7_code 6 = .ok (.lcmp, 1) := by decide +kernel
theorem d7_7 : decode prog_3_method_7_code 7 = .ok (.ifCond .lt 13, 3) := by decide +kernel
theorem d7_10 : decode prog_3_method_7_code 10 = .ok (.lload_n 2, 1) := by decide +kernel
theorem d7_11 : decode prog_3_method_7_code 11 = .ok (.aload_n 0, 1) := by decide +kernel
theorem d7_12 : decode prog_3_method_7_code 12 = .ok (.getfield 50, 3) := by decide +kernel
theorem d7_15 : decode prog_3_method_7_code 15 = .ok (.i2l, 1) := by decide +kernel
theorem d7_16 : decode prog_3_method_7_code 16 = .ok (.lcmp, 1) := by decide +kernel
theorem d7_17 : decode prog_3_method_7_code 17 = .ok (.ifCond .le 39, 3) := by decide +kernel
theorem d7_56 : decode prog_3_method_7_code 56 = .ok (.return_, 1) := by decide +kernel
theorem own_pn7 : plainName "com/example/kept_inbox/keptinbox/Limit" = true := by first | (simp [plainName, overriddenIn]; done) | decide +kernel
theorem ef_rm7 (m : MethodId) (a0 : Addr) (a1 : Addr) (q2 : Int64) : entryFrame m #[(.ref a0), (.ref a1), (.long q2)] 4 = mkF m 0 #[.val (.ref a0), .val (.ref a1), .val (.long q2), .second] [] := by first | (simp [entryFrame, mkF, argsToLocals, Value.category]; done) | rfl
def Q_rm7 (Z : State) (a0 : Addr) (a1 : Addr) (q2 : Int64) (mn : Int32) (mx : Int32) (h0 : Heap) (n0 : Nat) (v : Option Value) (h : Heap) (L : List Loc) : Prop := v = none ∧ Fr n0 L ∧ h = h0
set_option maxRecDepth 65536 in
set_option maxHeartbeats 40000000 in
theorem rm7 (l : Launch) (Z : State) (av0 : Array Value) (hw : ∀ d ∈ tables_1, d.before av0 Z = true) (ws : List Jvm.Cond) (a0 : Addr) (a1 : Addr) (q2 : Int64) (mn : Int32) (mx : Int32) (h0 : Heap) (n0 : Nat) (Z0 : n0 ≤ h0.size) (F0 : Fld Z h0 a0 "com/example/kept_inbox/keptinbox/Limit" "min" "I" (.int mn)) (F1 : Fld Z h0 a0 "com/example/kept_inbox/keptinbox/Limit" "max" "I" (.int mx)) (hlo : ¬ q2 < (mn.toInt64)) (hhi : ¬ (mx.toInt64) < q2) :
    MetFree l (⟨"com/example/kept_inbox/keptinbox/Limit", "check", "(Ljava/lang/String;J)V"⟩ : MethodName) (head1 (Jvm.Cond.code (⟨"com/example/kept_inbox/keptinbox/Limit", "check", "(Ljava/lang/String;J)V"⟩ : MethodName) prog_3_method_7_code 4 none :: ws) ({ frames := 0, cells := 0, slots := 0, locals := 0 } : Room)) (fun a U => a = #[(.ref a0), (.ref a1), (.long q2)] ∧ Z.Warmed39 U.vm ∧ U.heap = h0) (fun _ _ _ _ _ => True) (fun _ U o U' => ∃ v L, o = .returned v ∧ Q_rm7 Z a0 a1 q2 mn mx h0 n0 v U'.heap L ∧ FrameEnd U o U' L ({ frames := 0, cells := 0, slots := 0, locals := 0 } : Room).cells ({ frames := 0, cells := 0, slots := 0, locals := 0 } : Room).slots) := by
  refine MetFree.of_bodySF (plainFor_of_name own_pn7) hisR ?_
  intro p e s m args below meth c s₁ Bd hml0 hP hK
  obtain ⟨rfl, hZ, hh⟩ := hP
  have hx := Bd.exec
  have hby := Bd.bytes
  have hml : c.maxLocals = 4 := hml0
  have hown : s.vm.findClass "com/example/kept_inbox/keptinbox/Limit" = some m.cls := findClass_of_methodNamed Bd.named
  have hnm := (name_of_methodNamed Bd.named Bd.method).1
  have X0 : Stand p l e ({ frames := 0, cells := 0, slots := 0, locals := 0 } : Room) s m #[(.ref a0), (.ref a1), (.long q2)] below meth c s₁ [] 0 0 := Stand.of_body Bd
  have e0 : s₁.heap = h0 := by rw [← hh, Bd.state]; rfl
  have N0 := Fr.nil n0
  refine OGo.by (P := fun U' o => ∃ v L, o = .returned v ∧ Q_rm7 Z a0 a1 q2 mn mx h0 n0 v U'.heap L ∧ FrameEnd s o U' L ({ frames := 0, cells := 0, slots := 0, locals := 0 } : Room).cells ({ frames := 0, cells := 0, slots := 0, locals := 0 } : Room).slots) (fun t k => castTop (ef_rm7 m a0 a1 q2) k) ?_
  show OGo p e below _ (s₁.setTop (mkF m 0 #[.val (.ref a0), .val (.ref a1), .val (.long q2), .second] []))
  refine OGo.by (fun _ k => XS.lloadN X0.here hx rfl (hb hby d7_0) rfl k) ?_
  show OGo p e below _ (s₁.setTop (mkF m 1 #[.val (.ref a0), .val (.ref a1), .val (.long q2), .second] [(.long q2)]))
  refine OGo.by (fun _ k => XS.aloadN X0.here hx rfl (hb hby d7_1) rfl rfl k) ?_
  show OGo p e below _ (s₁.setTop (mkF m 2 #[.val (.ref a0), .val (.ref a1), .val (.long q2), .second] [(.ref a0), (.long q2)]))
  obtain ⟨T1, X1, e1, st1⟩ := getF X0 hx hZ hown (host := "") (Or.inl (hw _ (List.mem_of_getElem? (i := 41) rfl))) Via.refl e0 F0 (g := (mkF m 2 #[.val (.ref a0), .val (.ref a1), .val (.long q2), .second] [(.ref a0), (.long q2)])) rfl rfl (hb hby d7_2)
  refine OGo.by st1 ?_
  show OGo p e below _ (T1.setTop (mkF m 5 #[.val (.ref a0), .val (.ref a1), .val (.long q2), .second] [(.int mn), (.long q2)]))
  refine OGo.by (fun _ k => XS.i2l X1.here hx rfl (hb hby d7_5) rfl k) ?_
  show OGo p e below _ (T1.setTop (mkF m 6 #[.val (.ref a0), .val (.ref a1), .val (.long q2), .second] [(.long (mn.toInt64)), (.long q2)]))
  refine OGo.by (fun _ k => XS.lcmp X1.here hx rfl (hb hby d7_6) rfl k) ?_
  show OGo p e below _ (T1.setTop (mkF m 7 #[.val (.ref a0), .val (.ref a1), .val (.long q2), .second] [(.int (lcmpW q2 (mn.toInt64)))]))
  refine OGo.by (fun _ k => XS.ifNo X1.here hx rfl (hb hby d7_7) rfl ((if0 _ _).trans (flt (mt (lw_lt _ _).mp hlo)).1) k) ?_
  show OGo p e below _ (T1.setTop (mkF m 10 #[.val (.ref a0), .val (.ref a1), .val (.long q2), .second] []))
  refine OGo.by (fun _ k => XS.lloadN X1.here hx rfl (hb hby d7_10) rfl k) ?_
  show OGo p e below _ (T1.setTop (mkF m 11 #[.val (.ref a0), .val (.ref a1), .val (.long q2), .second] [(.long q2)]))
  refine OGo.by (fun _ k => XS.aloadN X1.here hx rfl (hb hby d7_11) rfl rfl k) ?_
  show OGo p e below _ (T1.setTop (mkF m 12 #[.val (.ref a0), .val (.ref a1), .val (.long q2), .second] [(.ref a0), (.long q2)]))
  obtain ⟨T2, X2, e2, st2⟩ := getF X1 hx hZ hown (host := "") (Or.inl (hw _ (List.mem_of_getElem? (i := 43) rfl))) Via.refl e1 F1 (g := (mkF m 12 #[.val (.ref a0), .val (.ref a1), .val (.long q2), .second] [(.ref a0), (.long q2)])) rfl rfl (hb hby d7_12)
  refine OGo.by st2 ?_
  show OGo p e below _ (T2.setTop (mkF m 15 #[.val (.ref a0), .val (.ref a1), .val (.long q2), .second] [(.int mx), (.long q2)]))
  refine OGo.by (fun _ k => XS.i2l X2.here hx rfl (hb hby d7_15) rfl k) ?_
  show OGo p e below _ (T2.setTop (mkF m 16 #[.val (.ref a0), .val (.ref a1), .val (.long q2), .second] [(.long (mx.toInt64)), (.long q2)]))
  refine OGo.by (fun _ k => XS.lcmp X2.here hx rfl (hb hby d7_16) rfl k) ?_
  show OGo p e below _ (T2.setTop (mkF m 17 #[.val (.ref a0), .val (.ref a1), .val (.long q2), .second] [(.int (lcmpW q2 (mx.toInt64)))]))
  refine OGo.by (fun _ k => XS.ifYes X2.here hx rfl (pc0 := 17) (pc' := 56) rfl (hb hby d7_17) rfl ((if0 _ _).trans (flt (mt (lw_gt _ _).mp hhi)).2.2.2) (by decide) (by decide) k) ?_
  show OGo p e below _ (T2.setTop (mkF m 56 #[.val (.ref a0), .val (.ref a1), .val (.long q2), .second] []))
  obtain ⟨fs, hr, hrun, hended, hW, hsame⟩ := X2.leave (v := none) (fun _ => rfl)
  refine OGo.ret (X2.returnOut hx Bd.returns (hb hby d7_56) hr) hrun hended ⟨_, _, rfl, ?_, ⟨_, rfl⟩, hW, hsame.mono (by decide) (by decide)⟩
  show Q_rm7 Z a0 a1 q2 mn mx h0 n0 _ T2.heap _
  rw [e2]
  exact ⟨rfl, N0, rfl⟩
theorem d8_0 : decode prog_3_method_5_code 0 = .ok (.aload_n 0, 1) := by decide +kernel
theorem d8_1 : decode prog_3_method_5_code 1 = .ok (.getfield 46, 3) := by decide +kernel
theorem d8_4 : decode prog_3_method_5_code 4 = .ok (.ireturn, 1) := by decide +kernel
theorem own_pn8 : plainName "com/example/kept_inbox/keptinbox/Limit" = true := by first | (simp [plainName, overriddenIn]; done) | decide +kernel
theorem ef_rm8 (m : MethodId) (a0 : Addr) : entryFrame m #[(.ref a0)] 1 = mkF m 0 #[.val (.ref a0)] [] := by first | (simp [entryFrame, mkF, argsToLocals, Value.category]; done) | rfl
def Q_rm8 (Z : State) (a0 : Addr) (mn : Int32) (h0 : Heap) (n0 : Nat) (v : Option Value) (h : Heap) (L : List Loc) : Prop := v = some (.int mn) ∧ Fr n0 L ∧ h = h0
set_option maxRecDepth 65536 in
set_option maxHeartbeats 40000000 in
theorem rm8 (l : Launch) (Z : State) (av0 : Array Value) (hw : ∀ d ∈ tables_1, d.before av0 Z = true) (ws : List Jvm.Cond) (a0 : Addr) (mn : Int32) (h0 : Heap) (n0 : Nat) (Z0 : n0 ≤ h0.size) (F0 : Fld Z h0 a0 "com/example/kept_inbox/keptinbox/Limit" "min" "I" (.int mn)) :
    MetFree l (⟨"com/example/kept_inbox/keptinbox/Limit", "min", "()I"⟩ : MethodName) (head1 (Jvm.Cond.code (⟨"com/example/kept_inbox/keptinbox/Limit", "min", "()I"⟩ : MethodName) prog_3_method_5_code 1 (some .int) :: ws) ({ frames := 0, cells := 0, slots := 0, locals := 0 } : Room)) (fun a U => a = #[(.ref a0)] ∧ Z.Warmed39 U.vm ∧ U.heap = h0) (fun _ _ _ _ _ => True) (fun _ U o U' => ∃ v L, o = .returned v ∧ Q_rm8 Z a0 mn h0 n0 v U'.heap L ∧ FrameEnd U o U' L ({ frames := 0, cells := 0, slots := 0, locals := 0 } : Room).cells ({ frames := 0, cells := 0, slots := 0, locals := 0 } : Room).slots) := by
  refine MetFree.of_bodySF (plainFor_of_name own_pn8) hisR ?_
  intro p e s m args below meth c s₁ Bd hml0 hP hK
  obtain ⟨rfl, hZ, hh⟩ := hP
  have hx := Bd.exec
  have hby := Bd.bytes
  have hml : c.maxLocals = 1 := hml0
  have hown : s.vm.findClass "com/example/kept_inbox/keptinbox/Limit" = some m.cls := findClass_of_methodNamed Bd.named
  have hnm := (name_of_methodNamed Bd.named Bd.method).1
  have X0 : Stand p l e ({ frames := 0, cells := 0, slots := 0, locals := 0 } : Room) s m #[(.ref a0)] below meth c s₁ [] 0 0 := Stand.of_body Bd
  have e0 : s₁.heap = h0 := by rw [← hh, Bd.state]; rfl
  have N0 := Fr.nil n0
  refine OGo.by (P := fun U' o => ∃ v L, o = .returned v ∧ Q_rm8 Z a0 mn h0 n0 v U'.heap L ∧ FrameEnd s o U' L ({ frames := 0, cells := 0, slots := 0, locals := 0 } : Room).cells ({ frames := 0, cells := 0, slots := 0, locals := 0 } : Room).slots) (fun t k => castTop (ef_rm8 m a0) k) ?_
  show OGo p e below _ (s₁.setTop (mkF m 0 #[.val (.ref a0)] []))
  refine OGo.by (fun _ k => XS.aloadN X0.here hx rfl (hb hby d8_0) rfl rfl k) ?_
  show OGo p e below _ (s₁.setTop (mkF m 1 #[.val (.ref a0)] [(.ref a0)]))
  obtain ⟨T1, X1, e1, st1⟩ := getF X0 hx hZ hown (host := "") (Or.inl (hw _ (List.mem_of_getElem? (i := 41) rfl))) Via.refl e0 F0 (g := (mkF m 1 #[.val (.ref a0)] [(.ref a0)])) rfl rfl (hb hby d8_1)
  refine OGo.by st1 ?_
  show OGo p e below _ (T1.setTop (mkF m 4 #[.val (.ref a0)] [(.int mn)]))
  obtain ⟨fs, hr, hrun, hended, hW, hsame⟩ := X1.leave (v := some (.int mn)) (fun h => by rw [Bd.returns] at h; cases h)
  refine OGo.ret (retI X1 hx Bd.returns (hb hby d8_4) hr) hrun hended ⟨_, _, rfl, ?_, ⟨_, rfl⟩, hW, hsame.mono (by decide) (by decide)⟩
  show Q_rm8 Z a0 mn h0 n0 _ T1.heap _
  rw [e1]
  exact ⟨rfl, N0, rfl⟩
theorem d9_0 : decode prog_3_method_6_code 0 = .ok (.aload_n 0, 1) := by decide +kernel
theorem d9_1 : decode prog_3_method_6_code 1 = .ok (.getfield 50, 3) := by decide +kernel
theorem d9_4 : decode prog_3_method_6_code 4 = .ok (.ireturn, 1) := by decide +kernel
theorem own_pn9 : plainName "com/example/kept_inbox/keptinbox/Limit" = true := by first | (simp [plainName, overriddenIn]; done) | decide +kernel
theorem ef_rm9 (m : MethodId) (a0 : Addr) : entryFrame m #[(.ref a0)] 1 = mkF m 0 #[.val (.ref a0)] [] := by first | (simp [entryFrame, mkF, argsToLocals, Value.category]; done) | rfl
def Q_rm9 (Z : State) (a0 : Addr) (mx : Int32) (h0 : Heap) (n0 : Nat) (v : Option Value) (h : Heap) (L : List Loc) : Prop := v = some (.int mx) ∧ Fr n0 L ∧ h = h0
set_option maxRecDepth 65536 in
set_option maxHeartbeats 40000000 in
theorem rm9 (l : Launch) (Z : State) (av0 : Array Value) (hw : ∀ d ∈ tables_1, d.before av0 Z = true) (ws : List Jvm.Cond) (a0 : Addr) (mx : Int32) (h0 : Heap) (n0 : Nat) (Z0 : n0 ≤ h0.size) (F0 : Fld Z h0 a0 "com/example/kept_inbox/keptinbox/Limit" "max" "I" (.int mx)) :
    MetFree l (⟨"com/example/kept_inbox/keptinbox/Limit", "max", "()I"⟩ : MethodName) (head1 (Jvm.Cond.code (⟨"com/example/kept_inbox/keptinbox/Limit", "max", "()I"⟩ : MethodName) prog_3_method_6_code 1 (some .int) :: ws) ({ frames := 0, cells := 0, slots := 0, locals := 0 } : Room)) (fun a U => a = #[(.ref a0)] ∧ Z.Warmed39 U.vm ∧ U.heap = h0) (fun _ _ _ _ _ => True) (fun _ U o U' => ∃ v L, o = .returned v ∧ Q_rm9 Z a0 mx h0 n0 v U'.heap L ∧ FrameEnd U o U' L ({ frames := 0, cells := 0, slots := 0, locals := 0 } : Room).cells ({ frames := 0, cells := 0, slots := 0, locals := 0 } : Room).slots) := by
  refine MetFree.of_bodySF (plainFor_of_name own_pn9) hisR ?_
  intro p e s m args below meth c s₁ Bd hml0 hP hK
  obtain ⟨rfl, hZ, hh⟩ := hP
  have hx := Bd.exec
  have hby := Bd.bytes
  have hml : c.maxLocals = 1 := hml0
  have hown : s.vm.findClass "com/example/kept_inbox/keptinbox/Limit" = some m.cls := findClass_of_methodNamed Bd.named
  have hnm := (name_of_methodNamed Bd.named Bd.method).1
  have X0 : Stand p l e ({ frames := 0, cells := 0, slots := 0, locals := 0 } : Room) s m #[(.ref a0)] below meth c s₁ [] 0 0 := Stand.of_body Bd
  have e0 : s₁.heap = h0 := by rw [← hh, Bd.state]; rfl
  have N0 := Fr.nil n0
  refine OGo.by (P := fun U' o => ∃ v L, o = .returned v ∧ Q_rm9 Z a0 mx h0 n0 v U'.heap L ∧ FrameEnd s o U' L ({ frames := 0, cells := 0, slots := 0, locals := 0 } : Room).cells ({ frames := 0, cells := 0, slots := 0, locals := 0 } : Room).slots) (fun t k => castTop (ef_rm9 m a0) k) ?_
  show OGo p e below _ (s₁.setTop (mkF m 0 #[.val (.ref a0)] []))
  refine OGo.by (fun _ k => XS.aloadN X0.here hx rfl (hb hby d9_0) rfl rfl k) ?_
  show OGo p e below _ (s₁.setTop (mkF m 1 #[.val (.ref a0)] [(.ref a0)]))
  obtain ⟨T1, X1, e1, st1⟩ := getF X0 hx hZ hown (host := "") (Or.inl (hw _ (List.mem_of_getElem? (i := 43) rfl))) Via.refl e0 F0 (g := (mkF m 1 #[.val (.ref a0)] [(.ref a0)])) rfl rfl (hb hby d9_1)
  refine OGo.by st1 ?_
  show OGo p e below _ (T1.setTop (mkF m 4 #[.val (.ref a0)] [(.int mx)]))
  obtain ⟨fs, hr, hrun, hended, hW, hsame⟩ := X1.leave (v := some (.int mx)) (fun h => by rw [Bd.returns] at h; cases h)
  refine OGo.ret (retI X1 hx Bd.returns (hb hby d9_4) hr) hrun hended ⟨_, _, rfl, ?_, ⟨_, rfl⟩, hW, hsame.mono (by decide) (by decide)⟩
  show Q_rm9 Z a0 mx h0 n0 _ T1.heap _
  rw [e1]
  exact ⟨rfl, N0, rfl⟩
theorem own_nn (x : Int64) : 0 ≤ (x &&& (9223372036854775807 : Int64)).toInt := by
  have e := c_maskL x (9223372036854775807 : Int64) 63 (by decide) (by decide)
  have h2 : 0 ≤ x.toInt % ((2 ^ 63 : Nat) : Int) := Int.emod_nonneg _ (by decide)
  omega
theorem own_rng {lo hi m y : Int64} (a b : Int) (hlo : lo.toInt = a) (hm : m.toInt = b - a + 1) (h0 : 0 ≤ a) (hab : a ≤ b) (hb : b < 2147483648) (hy : 0 ≤ y.toInt) : a ≤ (lo + (y - (y / m) * m)).toInt ∧ (lo + (y - (y / m) * m)).toInt ≤ b := by
  have e := (c_lrem y m (b - a + 1) hm).1 hy
  have p : 0 < b - a + 1 := by omega
  have r1 := Int.emod_nonneg y.toInt (by omega : b - a + 1 ≠ 0)
  have r2 := Int.emod_lt_of_pos y.toInt p
  rw [← e] at r1 r2
  have g := c_ladd lo (y - (y / m) * m)
  have w := rng64 (lo + (y - (y / m) * m))
  omega
theorem own_nlt {S z : Int64} {a : Int} (h : a ≤ S.toInt) (hz : z.toInt = a) : ¬ S < z := by rw [Int64.lt_iff_toInt_lt]; omega
theorem own_ngt {S z : Int64} {b : Int} (h : S.toInt ≤ b) (hz : z.toInt = b) : ¬ z < S := by rw [Int64.lt_iff_toInt_lt]; omega
theorem own_pd0 : parseMethodDescriptor "([C)V" = some ⟨[(.array .char)], none⟩ := by decide +kernel
theorem own_pd1 : parseMethodDescriptor "(Ljava/lang/String;J)V" = some ⟨[(.object "java/lang/String"), .long], none⟩ := by decide +kernel
theorem own_pd2 : parseMethodDescriptor "()I" = some ⟨[], some .int⟩ := by decide +kernel
theorem own_pn0 : plainName "com/example/kept_inbox/keptinbox/LimitCheckPinLaw" = true := by first | (simp [plainName, overriddenIn]; done) | decide +kernel
theorem ef_rm0 (m : MethodId) (i0 : Int32) (i1 : Int64) (i2 : Int32) : entryFrame m #[(.int i0), (.long i1), (.int i2)] maxLocals = mkF m 0 #[.val (.int i0), .val (.long i1), .second, .val (.int i2), .unset, .unset, .unset, .unset, .unset, .unset, .unset, .unset, .unset] [] := by first | (simp [entryFrame, mkF, argsToLocals, Value.category, maxLocals]; done) | rfl
def Q_rm0 (Z : State) (i0 : Int32) (i1 : Int64) (i2 : Int32) (w_NAME : Addr) (w_TITLE : Addr) (w_BODY : Addr) (w_RECIPIENTS : Addr) (w_MEMBERS : Addr) (w_SUBSCRIBER_IDS : Addr) (cz : Int32) (h0 : Heap) (n0 : Nat) (v : Option Value) (h : Heap) (L : List Loc) : Prop := v = some (.int 1) ∧ Fr n0 L
set_option maxRecDepth 65536 in
set_option maxHeartbeats 40000000 in
theorem rm0 (l : Launch) (Z : State) (av0 : Array Value) (hw : ∀ d ∈ tables_1, d.before av0 Z = true) (ws : List Jvm.Cond) (i0 : Int32) (i1 : Int64) (i2 : Int32) (w_NAME : Addr) (w_TITLE : Addr) (w_BODY : Addr) (w_RECIPIENTS : Addr) (w_MEMBERS : Addr) (w_SUBSCRIBER_IDS : Addr) (cz : Int32) (h0 : Heap) (n0 : Nat) (Z0 : n0 ≤ h0.size) (S_NAME : Sta Z Z.heap "com/example/kept_inbox/keptinbox/Limit" "NAME" "Lcom/example/kept_inbox/keptinbox/Limit;" (.ref w_NAME)) (E_NAME : Exa Z h0 w_NAME "com/example/kept_inbox/keptinbox/Limit") (F_NAME_min : Fld Z h0 w_NAME "com/example/kept_inbox/keptinbox/Limit" "min" "I" (.int (1 : Int32))) (F_NAME_max : Fld Z h0 w_NAME "com/example/kept_inbox/keptinbox/Limit" "max" "I" (.int (256 : Int32))) (S_TITLE : Sta Z Z.heap "com/example/kept_inbox/keptinbox/Limit" "TITLE" "Lcom/example/kept_inbox/keptinbox/Limit;" (.ref w_TITLE)) (E_TITLE : Exa Z h0 w_TITLE "com/example/kept_inbox/keptinbox/Limit") (F_TITLE_min : Fld Z h0 w_TITLE "com/example/kept_inbox/keptinbox/Limit" "min" "I" (.int (1 : Int32))) (F_TITLE_max : Fld Z h0 w_TITLE "com/example/kept_inbox/keptinbox/Limit" "max" "I" (.int (1024 : Int32))) (S_BODY : Sta Z Z.heap "com/example/kept_inbox/keptinbox/Limit" "BODY" "Lcom/example/kept_inbox/keptinbox/Limit;" (.ref w_BODY)) (E_BODY : Exa Z h0 w_BODY "com/example/kept_inbox/keptinbox/Limit") (F_BODY_min : Fld Z h0 w_BODY "com/example/kept_inbox/keptinbox/Limit" "min" "I" (.int (0 : Int32))) (F_BODY_max : Fld Z h0 w_BODY "com/example/kept_inbox/keptinbox/Limit" "max" "I" (.int (1048576 : Int32))) (S_RECIPIENTS : Sta Z Z.heap "com/example/kept_inbox/keptinbox/Limit" "RECIPIENTS" "Lcom/example/kept_inbox/keptinbox/Limit;" (.ref w_RECIPIENTS)) (E_RECIPIENTS : Exa Z h0 w_RECIPIENTS "com/example/kept_inbox/keptinbox/Limit") (F_RECIPIENTS_min : Fld Z h0 w_RECIPIENTS "com/example/kept_inbox/keptinbox/Limit" "min" "I" (.int (1 : Int32))) (F_RECIPIENTS_max : Fld Z h0 w_RECIPIENTS "com/example/kept_inbox/keptinbox/Limit" "max" "I" (.int (1000 : Int32))) (S_MEMBERS : Sta Z Z.heap "com/example/kept_inbox/keptinbox/Limit" "MEMBERS" "Lcom/example/kept_inbox/keptinbox/Limit;" (.ref w_MEMBERS)) (E_MEMBERS : Exa Z h0 w_MEMBERS "com/example/kept_inbox/keptinbox/Limit") (F_MEMBERS_min : Fld Z h0 w_MEMBERS "com/example/kept_inbox/keptinbox/Limit" "min" "I" (.int (0 : Int32))) (F_MEMBERS_max : Fld Z h0 w_MEMBERS "com/example/kept_inbox/keptinbox/Limit" "max" "I" (.int (1000 : Int32))) (S_SUBSCRIBER_IDS : Sta Z Z.heap "com/example/kept_inbox/keptinbox/Limit" "SUBSCRIBER_IDS" "Lcom/example/kept_inbox/keptinbox/Limit;" (.ref w_SUBSCRIBER_IDS)) (E_SUBSCRIBER_IDS : Exa Z h0 w_SUBSCRIBER_IDS "com/example/kept_inbox/keptinbox/Limit") (F_SUBSCRIBER_IDS_min : Fld Z h0 w_SUBSCRIBER_IDS "com/example/kept_inbox/keptinbox/Limit" "min" "I" (.int (1 : Int32))) (F_SUBSCRIBER_IDS_max : Fld Z h0 w_SUBSCRIBER_IDS "com/example/kept_inbox/keptinbox/Limit" "max" "I" (.int (1000 : Int32))) (O0 : Old Z n0 h0) (S1 : Sta Z Z.heap "java/lang/String" "COMPACT_STRINGS" "Z" (.int cz)) (hcz : ¬ cz = (0 : Int32)) :
    MetFree l x (head1 (Jvm.Cond.code x code maxLocals ret :: ws) room_1) (fun a U => a = #[(.int i0), (.long i1), (.int i2)] ∧ Z.Warmed39 U.vm ∧ U.heap = h0) (fun _ _ _ _ _ => True) (fun _ U o U' => ∃ v L, o = .returned v ∧ Q_rm0 Z i0 i1 i2 w_NAME w_TITLE w_BODY w_RECIPIENTS w_MEMBERS w_SUBSCRIBER_IDS cz h0 n0 v U'.heap L ∧ FrameEnd U o U' L room_1.cells room_1.slots) := by
  refine MetFree.of_bodySF (plainFor_of_name own_pn0) hisR ?_
  intro p e s m args below meth c s₁ Bd hml0 hP hK
  obtain ⟨rfl, hZ, hh⟩ := hP
  have hx := Bd.exec
  have hby := Bd.bytes
  have hml : c.maxLocals = 13 := hml0
  have hown : s.vm.findClass "com/example/kept_inbox/keptinbox/LimitCheckPinLaw" = some m.cls := findClass_of_methodNamed Bd.named
  have hnm := (name_of_methodNamed Bd.named Bd.method).1
  have X0 : Stand p l e room_1 s m #[(.int i0), (.long i1), (.int i2)] below meth c s₁ [] 0 0 := Stand.of_body Bd
  have e0 : s₁.heap = h0 := by rw [← hh, Bd.state]; rfl
  have N0 := Fr.nil n0
  refine OGo.by (P := fun U' o => ∃ v L, o = .returned v ∧ Q_rm0 Z i0 i1 i2 w_NAME w_TITLE w_BODY w_RECIPIENTS w_MEMBERS w_SUBSCRIBER_IDS cz h0 n0 v U'.heap L ∧ FrameEnd s o U' L room_1.cells room_1.slots) (fun t k => castTop (ef_rm0 m i0 i1 i2) k) ?_
  show OGo p e below _ (s₁.setTop (mkF m 0 #[.val (.int i0), .val (.long i1), .second, .val (.int i2), .unset, .unset, .unset, .unset, .unset, .unset, .unset, .unset, .unset] []))
  refine OGo.by (fun _ k => XS.iloadN X0.here hx rfl (hb hby at_0) rfl k) ?_
  show OGo p e below _ (s₁.setTop (mkF m 1 #[.val (.int i0), .val (.long i1), .second, .val (.int i2), .unset, .unset, .unset, .unset, .unset, .unset, .unset, .unset, .unset] [(.int i0)]))
  refine OGo.by (X0.ldcInt hx hown (mvT hZ (hw _ (List.mem_of_getElem? (i := 0) rfl))) (g := (mkF m 1 #[.val (.int i0), .val (.long i1), .second, .val (.int i2), .unset, .unset, .unset, .unset, .unset, .unset, .unset, .unset, .unset] [(.int i0)])) rfl (hb hby at_1)) ?_
  show OGo p e below _ (s₁.setTop (mkF m 3 #[.val (.int i0), .val (.long i1), .second, .val (.int i2), .unset, .unset, .unset, .unset, .unset, .unset, .unset, .unset, .unset] [(.int (2147483647 : Int32)), (.int i0)]))
  refine OGo.by (fun _ k => XS.iand X0.here hx rfl (hb hby at_3) rfl k) ?_
  show OGo p e below _ (s₁.setTop (mkF m 4 #[.val (.int i0), .val (.long i1), .second, .val (.int i2), .unset, .unset, .unset, .unset, .unset, .unset, .unset, .unset, .unset] [(.int (i0 &&& (2147483647 : Int32)))]))
  refine OGo.by (fun _ k => XS.bipush X0.here hx rfl (hb hby at_4) k) ?_
  show OGo p e below _ (s₁.setTop (mkF m 6 #[.val (.int i0), .val (.long i1), .second, .val (.int i2), .unset, .unset, .unset, .unset, .unset, .unset, .unset, .unset, .unset] [(.int (6 : Int32)), (.int (i0 &&& (2147483647 : Int32)))]))
  refine OGo.by (fun _ k => iremM X0 hx rfl (hb hby at_6) rfl (by decide) k) ?_
  show OGo p e below _ (s₁.setTop (mkF m 7 #[.val (.int i0), .val (.long i1), .second, .val (.int i2), .unset, .unset, .unset, .unset, .unset, .unset, .unset, .unset, .unset] [(.int ((i0 &&& (2147483647 : Int32)) % (6 : Int32)))]))
  refine OGo.by (fun _ k => XS.istore X0.here hx rfl (hb hby at_7) rfl (l' := #[.val (.int i0), .val (.long i1), .second, .val (.int i2), .val (.int ((i0 &&& (2147483647 : Int32)) % (6 : Int32))), .unset, .unset, .unset, .unset, .unset, .unset, .unset, .unset]) rfl k) ?_
  show OGo p e below _ (s₁.setTop (mkF m 9 #[.val (.int i0), .val (.long i1), .second, .val (.int i2), .val (.int ((i0 &&& (2147483647 : Int32)) % (6 : Int32))), .unset, .unset, .unset, .unset, .unset, .unset, .unset, .unset] []))
  refine OGo.by (fun _ k => XS.iload X0.here hx rfl (hb hby at_9) rfl k) ?_
  show OGo p e below _ (s₁.setTop (mkF m 11 #[.val (.int i0), .val (.long i1), .second, .val (.int i2), .val (.int ((i0 &&& (2147483647 : Int32)) % (6 : Int32))), .unset, .unset, .unset, .unset, .unset, .unset, .unset, .unset] [(.int ((i0 &&& (2147483647 : Int32)) % (6 : Int32)))]))
  by_cases hc11_1 : ((i0 &&& (2147483647 : Int32)) % (6 : Int32)) = (0 : Int32)
  · refine OGo.by (fun _ k => XS.ifNo X0.here hx rfl (hb hby at_11) rfl ((if0 _ _).trans (teq hc11_1).2) k) ?_
    show OGo p e below _ (s₁.setTop (mkF m 14 #[.val (.int i0), .val (.long i1), .second, .val (.int i2), .val (.int ((i0 &&& (2147483647 : Int32)) % (6 : Int32))), .unset, .unset, .unset, .unset, .unset, .unset, .unset, .unset] []))
    obtain ⟨T2, X2, e2, st2⟩ := getS2 X0 hx hZ hown (host := "") (Or.inl (hw _ (List.mem_of_getElem? (i := 1) rfl))) Via.refl e0 (S_NAME.ext O0.2) (g := (mkF m 14 #[.val (.int i0), .val (.long i1), .second, .val (.int i2), .val (.int ((i0 &&& (2147483647 : Int32)) % (6 : Int32))), .unset, .unset, .unset, .unset, .unset, .unset, .unset, .unset] [])) rfl (hb hby at_14)
    refine OGo.by st2 ?_
    show OGo p e below _ (T2.setTop (mkF m 17 #[.val (.int i0), .val (.long i1), .second, .val (.int i2), .val (.int ((i0 &&& (2147483647 : Int32)) % (6 : Int32))), .unset, .unset, .unset, .unset, .unset, .unset, .unset, .unset] [(.ref w_NAME)]))
    refine OGo.by (fun _ k => XS.astore X2.here hx rfl (hb hby at_17) rfl rfl (l' := #[.val (.int i0), .val (.long i1), .second, .val (.int i2), .val (.int ((i0 &&& (2147483647 : Int32)) % (6 : Int32))), .val (.ref w_NAME), .unset, .unset, .unset, .unset, .unset, .unset, .unset]) rfl k) ?_
    show OGo p e below _ (T2.setTop (mkF m 19 #[.val (.int i0), .val (.long i1), .second, .val (.int i2), .val (.int ((i0 &&& (2147483647 : Int32)) % (6 : Int32))), .val (.ref w_NAME), .unset, .unset, .unset, .unset, .unset, .unset, .unset] []))
    refine OGo.by (fun _ k => XS.lconst X2.here hx rfl (hb hby at_19) k) ?_
    show OGo p e below _ (T2.setTop (mkF m 20 #[.val (.int i0), .val (.long i1), .second, .val (.int i2), .val (.int ((i0 &&& (2147483647 : Int32)) % (6 : Int32))), .val (.ref w_NAME), .unset, .unset, .unset, .unset, .unset, .unset, .unset] [(.long (1 : Int64))]))
    refine OGo.by (fun _ k => XS.lstore X2.here hx rfl (hb hby at_20) rfl (l' := #[.val (.int i0), .val (.long i1), .second, .val (.int i2), .val (.int ((i0 &&& (2147483647 : Int32)) % (6 : Int32))), .val (.ref w_NAME), .val (.long (1 : Int64)), .second, .unset, .unset, .unset, .unset, .unset]) rfl k) ?_
    show OGo p e below _ (T2.setTop (mkF m 22 #[.val (.int i0), .val (.long i1), .second, .val (.int i2), .val (.int ((i0 &&& (2147483647 : Int32)) % (6 : Int32))), .val (.ref w_NAME), .val (.long (1 : Int64)), .second, .unset, .unset, .unset, .unset, .unset] []))
    refine OGo.by (X2.ldc2Long hx hown (mvT hZ (hw _ (List.mem_of_getElem? (i := 4) rfl))) (g := (mkF m 22 #[.val (.int i0), .val (.long i1), .second, .val (.int i2), .val (.int ((i0 &&& (2147483647 : Int32)) % (6 : Int32))), .val (.ref w_NAME), .val (.long (1 : Int64)), .second, .unset, .unset, .unset, .unset, .unset] [])) rfl (hb hby at_22)) ?_
    show OGo p e below _ (T2.setTop (mkF m 25 #[.val (.int i0), .val (.long i1), .second, .val (.int i2), .val (.int ((i0 &&& (2147483647 : Int32)) % (6 : Int32))), .val (.ref w_NAME), .val (.long (1 : Int64)), .second, .unset, .unset, .unset, .unset, .unset] [(.long (256 : Int64))]))
    refine OGo.by (fun _ k => XS.lstore X2.here hx rfl (hb hby at_25) rfl (l' := #[.val (.int i0), .val (.long i1), .second, .val (.int i2), .val (.int ((i0 &&& (2147483647 : Int32)) % (6 : Int32))), .val (.ref w_NAME), .val (.long (1 : Int64)), .second, .val (.long (256 : Int64)), .second, .unset, .unset, .unset]) rfl k) ?_
    show OGo p e below _ (T2.setTop (mkF m 27 #[.val (.int i0), .val (.long i1), .second, .val (.int i2), .val (.int ((i0 &&& (2147483647 : Int32)) % (6 : Int32))), .val (.ref w_NAME), .val (.long (1 : Int64)), .second, .val (.long (256 : Int64)), .second, .unset, .unset, .unset] []))
    refine OGo.by (fun _ k => XS.goto X2.here hx rfl (pc0 := 27) (pc' := 131) rfl (hb hby at_27) (by decide) (by decide) k) ?_
    show OGo p e below _ (T2.setTop (mkF m 131 #[.val (.int i0), .val (.long i1), .second, .val (.int i2), .val (.int ((i0 &&& (2147483647 : Int32)) % (6 : Int32))), .val (.ref w_NAME), .val (.long (1 : Int64)), .second, .val (.long (256 : Int64)), .second, .unset, .unset, .unset] []))
    refine OGo.by (fun _ k => XS.lload X2.here hx rfl (hb hby at_131) rfl k) ?_
    show OGo p e below _ (T2.setTop (mkF m 133 #[.val (.int i0), .val (.long i1), .second, .val (.int i2), .val (.int ((i0 &&& (2147483647 : Int32)) % (6 : Int32))), .val (.ref w_NAME), .val (.long (1 : Int64)), .second, .val (.long (256 : Int64)), .second, .unset, .unset, .unset] [(.long (1 : Int64))]))
    refine OGo.by (fun _ k => XS.lloadN X2.here hx rfl (hb hby at_133) rfl k) ?_
    show OGo p e below _ (T2.setTop (mkF m 134 #[.val (.int i0), .val (.long i1), .second, .val (.int i2), .val (.int ((i0 &&& (2147483647 : Int32)) % (6 : Int32))), .val (.ref w_NAME), .val (.long (1 : Int64)), .second, .val (.long (256 : Int64)), .second, .unset, .unset, .unset] [(.long i1), (.long (1 : Int64))]))
    refine OGo.by (X2.ldc2Long hx hown (mvT hZ (hw _ (List.mem_of_getElem? (i := 5) rfl))) (g := (mkF m 134 #[.val (.int i0), .val (.long i1), .second, .val (.int i2), .val (.int ((i0 &&& (2147483647 : Int32)) % (6 : Int32))), .val (.ref w_NAME), .val (.long (1 : Int64)), .second, .val (.long (256 : Int64)), .second, .unset, .unset, .unset] [(.long i1), (.long (1 : Int64))])) rfl (hb hby at_134)) ?_
    show OGo p e below _ (T2.setTop (mkF m 137 #[.val (.int i0), .val (.long i1), .second, .val (.int i2), .val (.int ((i0 &&& (2147483647 : Int32)) % (6 : Int32))), .val (.ref w_NAME), .val (.long (1 : Int64)), .second, .val (.long (256 : Int64)), .second, .unset, .unset, .unset] [(.long (9223372036854775807 : Int64)), (.long i1), (.long (1 : Int64))]))
    refine OGo.by (fun _ k => XS.land X2.here hx rfl (hb hby at_137) rfl k) ?_
    show OGo p e below _ (T2.setTop (mkF m 138 #[.val (.int i0), .val (.long i1), .second, .val (.int i2), .val (.int ((i0 &&& (2147483647 : Int32)) % (6 : Int32))), .val (.ref w_NAME), .val (.long (1 : Int64)), .second, .val (.long (256 : Int64)), .second, .unset, .unset, .unset] [(.long (i1 &&& (9223372036854775807 : Int64))), (.long (1 : Int64))]))
    refine OGo.by (fun _ k => XS.lload X2.here hx rfl (hb hby at_138) rfl k) ?_
    show OGo p e below _ (T2.setTop (mkF m 140 #[.val (.int i0), .val (.long i1), .second, .val (.int i2), .val (.int ((i0 &&& (2147483647 : Int32)) % (6 : Int32))), .val (.ref w_NAME), .val (.long (1 : Int64)), .second, .val (.long (256 : Int64)), .second, .unset, .unset, .unset] [(.long (256 : Int64)), (.long (i1 &&& (9223372036854775807 : Int64))), (.long (1 : Int64))]))
    refine OGo.by (fun _ k => XS.lload X2.here hx rfl (hb hby at_140) rfl k) ?_
    show OGo p e below _ (T2.setTop (mkF m 142 #[.val (.int i0), .val (.long i1), .second, .val (.int i2), .val (.int ((i0 &&& (2147483647 : Int32)) % (6 : Int32))), .val (.ref w_NAME), .val (.long (1 : Int64)), .second, .val (.long (256 : Int64)), .second, .unset, .unset, .unset] [(.long (1 : Int64)), (.long (256 : Int64)), (.long (i1 &&& (9223372036854775807 : Int64))), (.long (1 : Int64))]))
    refine OGo.by (fun _ k => XS.lsub X2.here hx rfl (hb hby at_142) rfl k) ?_
    show OGo p e below _ (T2.setTop (mkF m 143 #[.val (.int i0), .val (.long i1), .second, .val (.int i2), .val (.int ((i0 &&& (2147483647 : Int32)) % (6 : Int32))), .val (.ref w_NAME), .val (.long (1 : Int64)), .second, .val (.long (256 : Int64)), .second, .unset, .unset, .unset] [(.long ((256 : Int64) - (1 : Int64))), (.long (i1 &&& (9223372036854775807 : Int64))), (.long (1 : Int64))]))
    refine OGo.by (fun _ k => XS.lconst X2.here hx rfl (hb hby at_143) k) ?_
    show OGo p e below _ (T2.setTop (mkF m 144 #[.val (.int i0), .val (.long i1), .second, .val (.int i2), .val (.int ((i0 &&& (2147483647 : Int32)) % (6 : Int32))), .val (.ref w_NAME), .val (.long (1 : Int64)), .second, .val (.long (256 : Int64)), .second, .unset, .unset, .unset] [(.long (1 : Int64)), (.long ((256 : Int64) - (1 : Int64))), (.long (i1 &&& (9223372036854775807 : Int64))), (.long (1 : Int64))]))
    refine OGo.by (fun _ k => XS.ladd X2.here hx rfl (hb hby at_144) rfl k) ?_
    show OGo p e below _ (T2.setTop (mkF m 145 #[.val (.int i0), .val (.long i1), .second, .val (.int i2), .val (.int ((i0 &&& (2147483647 : Int32)) % (6 : Int32))), .val (.ref w_NAME), .val (.long (1 : Int64)), .second, .val (.long (256 : Int64)), .second, .unset, .unset, .unset] [(.long (((256 : Int64) - (1 : Int64)) + (1 : Int64))), (.long (i1 &&& (9223372036854775807 : Int64))), (.long (1 : Int64))]))
    refine OGo.by (fun _ k => XS.lrem X2.here hx rfl (hb hby at_145) rfl (by decide) k) ?_
    show OGo p e below _ (T2.setTop (mkF m 146 #[.val (.int i0), .val (.long i1), .second, .val (.int i2), .val (.int ((i0 &&& (2147483647 : Int32)) % (6 : Int32))), .val (.ref w_NAME), .val (.long (1 : Int64)), .second, .val (.long (256 : Int64)), .second, .unset, .unset, .unset] [(.long ((i1 &&& (9223372036854775807 : Int64)) - ((i1 &&& (9223372036854775807 : Int64)) / (((256 : Int64) - (1 : Int64)) + (1 : Int64))) * (((256 : Int64) - (1 : Int64)) + (1 : Int64)))), (.long (1 : Int64))]))
    refine OGo.by (fun _ k => XS.ladd X2.here hx rfl (hb hby at_146) rfl k) ?_
    show OGo p e below _ (T2.setTop (mkF m 147 #[.val (.int i0), .val (.long i1), .second, .val (.int i2), .val (.int ((i0 &&& (2147483647 : Int32)) % (6 : Int32))), .val (.ref w_NAME), .val (.long (1 : Int64)), .second, .val (.long (256 : Int64)), .second, .unset, .unset, .unset] [(.long ((1 : Int64) + ((i1 &&& (9223372036854775807 : Int64)) - ((i1 &&& (9223372036854775807 : Int64)) / (((256 : Int64) - (1 : Int64)) + (1 : Int64))) * (((256 : Int64) - (1 : Int64)) + (1 : Int64)))))]))
    refine OGo.by (fun _ k => XS.lstore X2.here hx rfl (hb hby at_147) rfl (l' := #[.val (.int i0), .val (.long i1), .second, .val (.int i2), .val (.int ((i0 &&& (2147483647 : Int32)) % (6 : Int32))), .val (.ref w_NAME), .val (.long (1 : Int64)), .second, .val (.long (256 : Int64)), .second, .val (.long ((1 : Int64) + ((i1 &&& (9223372036854775807 : Int64)) - ((i1 &&& (9223372036854775807 : Int64)) / (((256 : Int64) - (1 : Int64)) + (1 : Int64))) * (((256 : Int64) - (1 : Int64)) + (1 : Int64))))), .second, .unset]) rfl k) ?_
    show OGo p e below _ (T2.setTop (mkF m 149 #[.val (.int i0), .val (.long i1), .second, .val (.int i2), .val (.int ((i0 &&& (2147483647 : Int32)) % (6 : Int32))), .val (.ref w_NAME), .val (.long (1 : Int64)), .second, .val (.long (256 : Int64)), .second, .val (.long ((1 : Int64) + ((i1 &&& (9223372036854775807 : Int64)) - ((i1 &&& (9223372036854775807 : Int64)) / (((256 : Int64) - (1 : Int64)) + (1 : Int64))) * (((256 : Int64) - (1 : Int64)) + (1 : Int64))))), .second, .unset] []))
    obtain ⟨T3, h3, X3, e3, E3, A3, D3, U3, st3⟩ := newO X2 hx hZ hown (hw _ (List.mem_of_getElem? (i := 6) rfl)) (hw _ (List.mem_of_getElem? (i := 7) rfl)) (hw _ (List.mem_of_getElem? (i := 8) rfl)) e2 (g := (mkF m 149 #[.val (.int i0), .val (.long i1), .second, .val (.int i2), .val (.int ((i0 &&& (2147483647 : Int32)) % (6 : Int32))), .val (.ref w_NAME), .val (.long (1 : Int64)), .second, .val (.long (256 : Int64)), .second, .val (.long ((1 : Int64) + ((i1 &&& (9223372036854775807 : Int64)) - ((i1 &&& (9223372036854775807 : Int64)) / (((256 : Int64) - (1 : Int64)) + (1 : Int64))) * (((256 : Int64) - (1 : Int64)) + (1 : Int64))))), .second, .unset] [])) rfl (hb hby at_149) (by decide) (by decide)
    obtain ⟨b3, g3⟩ : ∃ z, z = h0.size := ⟨_, rfl⟩
    rw [← g3] at A3 D3 U3 st3
    have ne_w_NAME_b3 : w_NAME ≠ b3 := Nat.ne_of_lt (Nat.lt_of_lt_of_le E_NAME.lt (Nat.le_of_eq g3.symm))
    have ne_w_TITLE_b3 : w_TITLE ≠ b3 := Nat.ne_of_lt (Nat.lt_of_lt_of_le E_TITLE.lt (Nat.le_of_eq g3.symm))
    have ne_w_BODY_b3 : w_BODY ≠ b3 := Nat.ne_of_lt (Nat.lt_of_lt_of_le E_BODY.lt (Nat.le_of_eq g3.symm))
    have ne_w_RECIPIENTS_b3 : w_RECIPIENTS ≠ b3 := Nat.ne_of_lt (Nat.lt_of_lt_of_le E_RECIPIENTS.lt (Nat.le_of_eq g3.symm))
    have ne_w_MEMBERS_b3 : w_MEMBERS ≠ b3 := Nat.ne_of_lt (Nat.lt_of_lt_of_le E_MEMBERS.lt (Nat.le_of_eq g3.symm))
    have ne_w_SUBSCRIBER_IDS_b3 : w_SUBSCRIBER_IDS ≠ b3 := Nat.ne_of_lt (Nat.lt_of_lt_of_le E_SUBSCRIBER_IDS.lt (Nat.le_of_eq g3.symm))
    have g_b3 : n0 ≤ b3 := Nat.le_trans Z0 (Nat.le_of_eq g3.symm)
    have sz_b3 : h0.size ≤ b3 := Nat.le_trans (Nat.le_refl _) (Nat.le_of_eq g3.symm)
    refine OGo.by st3 ?_
    have K3 : Keep h0 h3 [] := ((Keep.refl h0 [])).ext E3
    have F3_coder : Fld Z h3 b3 "java/lang/String" "coder" "B" (.int (0 : Int32)) := D3 (Or.inr (hw _ (List.mem_of_getElem? (i := 33) rfl))) (ty := .byte) (by decide)
    have F3_value : Fld Z h3 b3 "java/lang/String" "value" "[B" .null := D3 (Or.inr (hw _ (List.mem_of_getElem? (i := 35) rfl))) (ty := (.array .byte)) (by decide)
    show OGo p e below _ (T3.setTop (mkF m 152 #[.val (.int i0), .val (.long i1), .second, .val (.int i2), .val (.int ((i0 &&& (2147483647 : Int32)) % (6 : Int32))), .val (.ref w_NAME), .val (.long (1 : Int64)), .second, .val (.long (256 : Int64)), .second, .val (.long ((1 : Int64) + ((i1 &&& (9223372036854775807 : Int64)) - ((i1 &&& (9223372036854775807 : Int64)) / (((256 : Int64) - (1 : Int64)) + (1 : Int64))) * (((256 : Int64) - (1 : Int64)) + (1 : Int64))))), .second, .unset] [(.ref b3)]))
    refine OGo.by (fun _ k => XS.dup X3.here hx rfl (hb hby at_152) rfl rfl k) ?_
    show OGo p e below _ (T3.setTop (mkF m 153 #[.val (.int i0), .val (.long i1), .second, .val (.int i2), .val (.int ((i0 &&& (2147483647 : Int32)) % (6 : Int32))), .val (.ref w_NAME), .val (.long (1 : Int64)), .second, .val (.long (256 : Int64)), .second, .val (.long ((1 : Int64) + ((i1 &&& (9223372036854775807 : Int64)) - ((i1 &&& (9223372036854775807 : Int64)) / (((256 : Int64) - (1 : Int64)) + (1 : Int64))) * (((256 : Int64) - (1 : Int64)) + (1 : Int64))))), .second, .unset] [(.ref b3), (.ref b3)]))
    refine OGo.by (fun _ k => XS.iconst X3.here hx rfl (hb hby at_153) k) ?_
    show OGo p e below _ (T3.setTop (mkF m 154 #[.val (.int i0), .val (.long i1), .second, .val (.int i2), .val (.int ((i0 &&& (2147483647 : Int32)) % (6 : Int32))), .val (.ref w_NAME), .val (.long (1 : Int64)), .second, .val (.long (256 : Int64)), .second, .val (.long ((1 : Int64) + ((i1 &&& (9223372036854775807 : Int64)) - ((i1 &&& (9223372036854775807 : Int64)) / (((256 : Int64) - (1 : Int64)) + (1 : Int64))) * (((256 : Int64) - (1 : Int64)) + (1 : Int64))))), .second, .unset] [(.int (1 : Int32)), (.ref b3), (.ref b3)]))
    obtain ⟨T4, h4, k4, X4, e4, E4, A4, st4⟩ := newP X3 hx hZ (hw _ (List.mem_of_getElem? (i := 9) rfl)) e3 (g := (mkF m 154 #[.val (.int i0), .val (.long i1), .second, .val (.int i2), .val (.int ((i0 &&& (2147483647 : Int32)) % (6 : Int32))), .val (.ref w_NAME), .val (.long (1 : Int64)), .second, .val (.long (256 : Int64)), .second, .val (.long ((1 : Int64) + ((i1 &&& (9223372036854775807 : Int64)) - ((i1 &&& (9223372036854775807 : Int64)) / (((256 : Int64) - (1 : Int64)) + (1 : Int64))) * (((256 : Int64) - (1 : Int64)) + (1 : Int64))))), .second, .unset] [(.int (1 : Int32)), (.ref b3), (.ref b3)])) rfl (hb hby at_154) rfl (by decide : ¬ ((1 : Int32) < (0 : Int32))) (cap := 1) (by decide) (by decide) (by decide) (by decide)
    obtain ⟨b4, g4⟩ : ∃ z, z = h3.size := ⟨_, rfl⟩
    rw [← g4] at A4 st4
    have f5 : Exa Z h3 w_NAME "com/example/kept_inbox/keptinbox/Limit" := (E_NAME.ext E3)
    have ne_w_NAME_b4 : w_NAME ≠ b4 := Nat.ne_of_lt (Nat.lt_of_lt_of_le f5.lt (Nat.le_of_eq g4.symm))
    have f6 : Exa Z h3 w_TITLE "com/example/kept_inbox/keptinbox/Limit" := (E_TITLE.ext E3)
    have ne_w_TITLE_b4 : w_TITLE ≠ b4 := Nat.ne_of_lt (Nat.lt_of_lt_of_le f6.lt (Nat.le_of_eq g4.symm))
    have f7 : Exa Z h3 w_BODY "com/example/kept_inbox/keptinbox/Limit" := (E_BODY.ext E3)
    have ne_w_BODY_b4 : w_BODY ≠ b4 := Nat.ne_of_lt (Nat.lt_of_lt_of_le f7.lt (Nat.le_of_eq g4.symm))
    have f8 : Exa Z h3 w_RECIPIENTS "com/example/kept_inbox/keptinbox/Limit" := (E_RECIPIENTS.ext E3)
    have ne_w_RECIPIENTS_b4 : w_RECIPIENTS ≠ b4 := Nat.ne_of_lt (Nat.lt_of_lt_of_le f8.lt (Nat.le_of_eq g4.symm))
    have f9 : Exa Z h3 w_MEMBERS "com/example/kept_inbox/keptinbox/Limit" := (E_MEMBERS.ext E3)
    have ne_w_MEMBERS_b4 : w_MEMBERS ≠ b4 := Nat.ne_of_lt (Nat.lt_of_lt_of_le f9.lt (Nat.le_of_eq g4.symm))
    have f10 : Exa Z h3 w_SUBSCRIBER_IDS "com/example/kept_inbox/keptinbox/Limit" := (E_SUBSCRIBER_IDS.ext E3)
    have ne_w_SUBSCRIBER_IDS_b4 : w_SUBSCRIBER_IDS ≠ b4 := Nat.ne_of_lt (Nat.lt_of_lt_of_le f10.lt (Nat.le_of_eq g4.symm))
    have ne_b3_b4 : b3 ≠ b4 := Nat.ne_of_lt (Nat.lt_of_lt_of_le A3.lt (Nat.le_of_eq g4.symm))
    have g_b4 : n0 ≤ b4 := Nat.le_trans (Nat.le_trans Z0 K3.1) (Nat.le_of_eq g4.symm)
    have sz_b4 : h0.size ≤ b4 := Nat.le_trans K3.1 (Nat.le_of_eq g4.symm)
    refine OGo.by st4 ?_
    have K4 : Keep h0 h4 [] := (K3).ext E4
    have V4 : Arv Z h4 b4 k4 .char (1 : Int32) [(.int (0 : Int32))] (.int (0 : Int32)) := (Arv.new A4 (by decide)).pad (pad_rep [] (.int (0 : Int32)) 1)
    show OGo p e below _ (T4.setTop (mkF m 156 #[.val (.int i0), .val (.long i1), .second, .val (.int i2), .val (.int ((i0 &&& (2147483647 : Int32)) % (6 : Int32))), .val (.ref w_NAME), .val (.long (1 : Int64)), .second, .val (.long (256 : Int64)), .second, .val (.long ((1 : Int64) + ((i1 &&& (9223372036854775807 : Int64)) - ((i1 &&& (9223372036854775807 : Int64)) / (((256 : Int64) - (1 : Int64)) + (1 : Int64))) * (((256 : Int64) - (1 : Int64)) + (1 : Int64))))), .second, .unset] [(.ref b4), (.ref b3), (.ref b3)]))
    refine OGo.by (fun _ k => XS.dup X4.here hx rfl (hb hby at_156) rfl rfl k) ?_
    show OGo p e below _ (T4.setTop (mkF m 157 #[.val (.int i0), .val (.long i1), .second, .val (.int i2), .val (.int ((i0 &&& (2147483647 : Int32)) % (6 : Int32))), .val (.ref w_NAME), .val (.long (1 : Int64)), .second, .val (.long (256 : Int64)), .second, .val (.long ((1 : Int64) + ((i1 &&& (9223372036854775807 : Int64)) - ((i1 &&& (9223372036854775807 : Int64)) / (((256 : Int64) - (1 : Int64)) + (1 : Int64))) * (((256 : Int64) - (1 : Int64)) + (1 : Int64))))), .second, .unset] [(.ref b4), (.ref b4), (.ref b3), (.ref b3)]))
    refine OGo.by (fun _ k => XS.iconst X4.here hx rfl (hb hby at_157) k) ?_
    show OGo p e below _ (T4.setTop (mkF m 158 #[.val (.int i0), .val (.long i1), .second, .val (.int i2), .val (.int ((i0 &&& (2147483647 : Int32)) % (6 : Int32))), .val (.ref w_NAME), .val (.long (1 : Int64)), .second, .val (.long (256 : Int64)), .second, .val (.long ((1 : Int64) + ((i1 &&& (9223372036854775807 : Int64)) - ((i1 &&& (9223372036854775807 : Int64)) / (((256 : Int64) - (1 : Int64)) + (1 : Int64))) * (((256 : Int64) - (1 : Int64)) + (1 : Int64))))), .second, .unset] [(.int (0 : Int32)), (.ref b4), (.ref b4), (.ref b3), (.ref b3)]))
    refine OGo.by (fun _ k => XS.iloadN X4.here hx rfl (hb hby at_158) rfl k) ?_
    show OGo p e below _ (T4.setTop (mkF m 159 #[.val (.int i0), .val (.long i1), .second, .val (.int i2), .val (.int ((i0 &&& (2147483647 : Int32)) % (6 : Int32))), .val (.ref w_NAME), .val (.long (1 : Int64)), .second, .val (.long (256 : Int64)), .second, .val (.long ((1 : Int64) + ((i1 &&& (9223372036854775807 : Int64)) - ((i1 &&& (9223372036854775807 : Int64)) / (((256 : Int64) - (1 : Int64)) + (1 : Int64))) * (((256 : Int64) - (1 : Int64)) + (1 : Int64))))), .second, .unset] [(.int i2), (.int (0 : Int32)), (.ref b4), (.ref b4), (.ref b3), (.ref b3)]))
    refine OGo.by (fun _ k => XS.sipush X4.here hx rfl (hb hby at_159) k) ?_
    show OGo p e below _ (T4.setTop (mkF m 162 #[.val (.int i0), .val (.long i1), .second, .val (.int i2), .val (.int ((i0 &&& (2147483647 : Int32)) % (6 : Int32))), .val (.ref w_NAME), .val (.long (1 : Int64)), .second, .val (.long (256 : Int64)), .second, .val (.long ((1 : Int64) + ((i1 &&& (9223372036854775807 : Int64)) - ((i1 &&& (9223372036854775807 : Int64)) / (((256 : Int64) - (1 : Int64)) + (1 : Int64))) * (((256 : Int64) - (1 : Int64)) + (1 : Int64))))), .second, .unset] [(.int (255 : Int32)), (.int i2), (.int (0 : Int32)), (.ref b4), (.ref b4), (.ref b3), (.ref b3)]))
    refine OGo.by (fun _ k => XS.iand X4.here hx rfl (hb hby at_162) rfl k) ?_
    show OGo p e below _ (T4.setTop (mkF m 163 #[.val (.int i0), .val (.long i1), .second, .val (.int i2), .val (.int ((i0 &&& (2147483647 : Int32)) % (6 : Int32))), .val (.ref w_NAME), .val (.long (1 : Int64)), .second, .val (.long (256 : Int64)), .second, .val (.long ((1 : Int64) + ((i1 &&& (9223372036854775807 : Int64)) - ((i1 &&& (9223372036854775807 : Int64)) / (((256 : Int64) - (1 : Int64)) + (1 : Int64))) * (((256 : Int64) - (1 : Int64)) + (1 : Int64))))), .second, .unset] [(.int (i2 &&& (255 : Int32))), (.int (0 : Int32)), (.ref b4), (.ref b4), (.ref b3), (.ref b3)]))
    refine OGo.by (fun _ k => XS.i2c X4.here hx rfl (hb hby at_163) rfl k) ?_
    show OGo p e below _ (T4.setTop (mkF m 164 #[.val (.int i0), .val (.long i1), .second, .val (.int i2), .val (.int ((i0 &&& (2147483647 : Int32)) % (6 : Int32))), .val (.ref w_NAME), .val (.long (1 : Int64)), .second, .val (.long (256 : Int64)), .second, .val (.long ((1 : Int64) + ((i1 &&& (9223372036854775807 : Int64)) - ((i1 &&& (9223372036854775807 : Int64)) / (((256 : Int64) - (1 : Int64)) + (1 : Int64))) * (((256 : Int64) - (1 : Int64)) + (1 : Int64))))), .second, .unset] [(.int ((i2 &&& (255 : Int32)).toUInt32.toUInt16.toUInt32.toInt32)), (.int (0 : Int32)), (.ref b4), (.ref b4), (.ref b3), (.ref b3)]))
    obtain ⟨cl11, Ar11, q11, S11, M11, Hs11, G11⟩ := id V4
    obtain ⟨T11, h11, X11, e11, W11, st11⟩ := stC X4 hx hZ e4 Ar11 (j := (0 : Int32)) (inb_of S11 ⟨(by decide), (by decide)⟩) (g := (mkF m 164 #[.val (.int i0), .val (.long i1), .second, .val (.int i2), .val (.int ((i0 &&& (2147483647 : Int32)) % (6 : Int32))), .val (.ref w_NAME), .val (.long (1 : Int64)), .second, .val (.long (256 : Int64)), .second, .val (.long ((1 : Int64) + ((i1 &&& (9223372036854775807 : Int64)) - ((i1 &&& (9223372036854775807 : Int64)) / (((256 : Int64) - (1 : Int64)) + (1 : Int64))) * (((256 : Int64) - (1 : Int64)) + (1 : Int64))))), .second, .unset] [(.int ((i2 &&& (255 : Int32)).toUInt32.toUInt16.toUInt32.toInt32)), (.int (0 : Int32)), (.ref b4), (.ref b4), (.ref b3), (.ref b3)])) rfl rfl (hb hby at_164)
    refine OGo.by st11 ?_
    have N11 := Fr.snoc X11 N0 g_b4
    have K11 : Keep h0 h11 [] := (K4).wr W11 (Or.inr sz_b4)
    have V11 : Arv Z h11 b4 k4 .char (1 : Int32) [(.int (nar .char ((i2 &&& (255 : Int32)).toUInt32.toUInt16.toUInt32.toInt32)))] (.int (0 : Int32)) := Arv.set Ar11 q11 S11 M11 Hs11 G11 (fits_nar_char _) W11 0 rfl (Nat.le_of_ble_eq_true rfl)
    show OGo p e below _ (T11.setTop (mkF m 165 #[.val (.int i0), .val (.long i1), .second, .val (.int i2), .val (.int ((i0 &&& (2147483647 : Int32)) % (6 : Int32))), .val (.ref w_NAME), .val (.long (1 : Int64)), .second, .val (.long (256 : Int64)), .second, .val (.long ((1 : Int64) + ((i1 &&& (9223372036854775807 : Int64)) - ((i1 &&& (9223372036854775807 : Int64)) / (((256 : Int64) - (1 : Int64)) + (1 : Int64))) * (((256 : Int64) - (1 : Int64)) + (1 : Int64))))), .second, .unset] [(.ref b4), (.ref b3), (.ref b3)]))
    have f13 : Exa Z h11 b3 "java/lang/String" := ((A3.ext E4).wr W11)
    have f14 : Fld Z h11 b3 "java/lang/String" "value" "[B" .null := ((F3_value.ext E4).other W11 (Or.inl ne_b3_b4))
    have f15 : Fld Z h11 b3 "java/lang/String" "coder" "B" (.int (0 : Int32)) := ((F3_coder.ext E4).other W11 (Or.inl ne_b3_b4))
    have f16 : Old Z n0 h11 := (((O0.ext E3).ext E4).wr W11 g_b4)
    have hp12 : ∀ c ∈ ([(nar .char ((i2 &&& (255 : Int32)).toUInt32.toUInt16.toUInt32.toInt32))] : List Int32), ¬ c < 0 ∧ ¬ (255 : Int32) < c := by
      intro c hc; simp only [List.mem_cons, List.not_mem_nil, or_false] at hc
      subst hc; exact and255_chars i2
    have hws12 : ∀ d ∈ StrChars.Road.words, d.before av0 Z = true := fun d hd => hw d ((by decide +kernel : ∀ d ∈ StrChars.Road.words, d ∈ tables_1) d hd)
    obtain ⟨_, _, ⟨T12, L12, k12, n12⟩, -, X12, ⟨Lc12, hQ12, l12, y12, z12⟩, st12⟩ := X11.specialBack hx (y := (⟨"java/lang/String", "<init>", "([C)V"⟩ : MethodName)) rfl hown (mvT hZ (hw _ (List.mem_of_getElem? (i := 10) rfl))) (mvT hZ (hw _ (List.mem_of_getElem? (i := 11) rfl))) (mvT hZ (hw _ (List.mem_of_getElem? (i := 12) rfl))) (by decide) (StrChars.Road.backV (W := 1) hZ hws12 (kI := 4) (hw _ (List.mem_of_getElem? (i := 7) rfl)) (cs := ([(nar .char ((i2 &&& (255 : Int32)).toUInt32.toUInt16.toUInt32.toInt32))] : List Int32)) (bs := ([(nar .char ((i2 &&& (255 : Int32)).toUInt32.toUInt16.toUInt32.toInt32))] : List Int32).map (fun c => c.toInt8.toInt32)) (n := 1) g_b3 (Nat.le_trans Z0 K11.1) f13 f14 f15 V11 (S1.ext f16.2) hcz rfl rfl (by decide) (by decide) hp12 rfl (by decide) (by decide)) (g := (mkF m 165 #[.val (.int i0), .val (.long i1), .second, .val (.int i2), .val (.int ((i0 &&& (2147483647 : Int32)) % (6 : Int32))), .val (.ref w_NAME), .val (.long (1 : Int64)), .second, .val (.long (256 : Int64)), .second, .val (.long ((1 : Int64) + ((i1 &&& (9223372036854775807 : Int64)) - ((i1 &&& (9223372036854775807 : Int64)) / (((256 : Int64) - (1 : Int64)) + (1 : Int64))) * (((256 : Int64) - (1 : Int64)) + (1 : Int64))))), .second, .unset] [(.ref b4), (.ref b3), (.ref b3)])) rfl (by rw [hml]; rfl) (Steps.refl _) (a := b3) (argsL := [(.ref b4)]) (rest := [(.ref b3)]) (lenOf own_pd0 rfl) rfl (by show 2 * 0 + _ ≤ _; exact Nat.le_of_eq rfl) (hb hby at_165) (fun _ _ => ⟨rfl, e11, (by decide : 2 + 1 ≤ _), (by decide : 5 + 1 ≤ _)⟩)
    dsimp only [Pt.U, Pt.locs, Pt.cells, Pt.slots] at X12 l12 y12 z12 st12 hQ12
    subst l12 y12 z12
    obtain ⟨rfl, N12q, Kc12, GE12, GC12, t12, kb12, gt12, ge12, ne_t12_b3, GV12, GA12⟩ := hQ12
    have N12 := Fr.app N11 N12q
    have f17 : Exa Z h11 w_NAME "com/example/kept_inbox/keptinbox/Limit" := ((f5.ext E4).wr W11)
    have ne_w_NAME_t12 : w_NAME ≠ t12 := Nat.ne_of_lt (Nat.lt_of_lt_of_le f17.lt ge12)
    have f18 : Exa Z h11 w_TITLE "com/example/kept_inbox/keptinbox/Limit" := ((f6.ext E4).wr W11)
    have ne_w_TITLE_t12 : w_TITLE ≠ t12 := Nat.ne_of_lt (Nat.lt_of_lt_of_le f18.lt ge12)
    have f19 : Exa Z h11 w_BODY "com/example/kept_inbox/keptinbox/Limit" := ((f7.ext E4).wr W11)
    have ne_w_BODY_t12 : w_BODY ≠ t12 := Nat.ne_of_lt (Nat.lt_of_lt_of_le f19.lt ge12)
    have f20 : Exa Z h11 w_RECIPIENTS "com/example/kept_inbox/keptinbox/Limit" := ((f8.ext E4).wr W11)
    have ne_w_RECIPIENTS_t12 : w_RECIPIENTS ≠ t12 := Nat.ne_of_lt (Nat.lt_of_lt_of_le f20.lt ge12)
    have f21 : Exa Z h11 w_MEMBERS "com/example/kept_inbox/keptinbox/Limit" := ((f9.ext E4).wr W11)
    have ne_w_MEMBERS_t12 : w_MEMBERS ≠ t12 := Nat.ne_of_lt (Nat.lt_of_lt_of_le f21.lt ge12)
    have f22 : Exa Z h11 w_SUBSCRIBER_IDS "com/example/kept_inbox/keptinbox/Limit" := ((f10.ext E4).wr W11)
    have ne_w_SUBSCRIBER_IDS_t12 : w_SUBSCRIBER_IDS ≠ t12 := Nat.ne_of_lt (Nat.lt_of_lt_of_le f22.lt ge12)
    have ne_b3_t12 : b3 ≠ t12 := Nat.ne_of_lt (Nat.lt_of_lt_of_le f13.lt ge12)
    have ne_b4_t12 : b4 ≠ t12 := Nat.ne_of_lt (Nat.lt_of_lt_of_le V11.lt ge12)
    have g_t12 : n0 ≤ t12 := Nat.le_trans (Nat.le_trans Z0 K11.1) ge12
    have sz_t12 : h0.size ≤ t12 := Nat.le_trans K11.1 ge12
    have K12 : Keep h0 T12.heap [] := (K11).trans Kc12 (fun x hx => by simp only [List.mem_cons, List.not_mem_nil, or_false] at hx; subst hx; exact Or.inr sz_b3)
    refine OGo.of st12 ?_
    show OGo p e below _ (T12.setTop (mkF m 168 #[.val (.int i0), .val (.long i1), .second, .val (.int i2), .val (.int ((i0 &&& (2147483647 : Int32)) % (6 : Int32))), .val (.ref w_NAME), .val (.long (1 : Int64)), .second, .val (.long (256 : Int64)), .second, .val (.long ((1 : Int64) + ((i1 &&& (9223372036854775807 : Int64)) - ((i1 &&& (9223372036854775807 : Int64)) / (((256 : Int64) - (1 : Int64)) + (1 : Int64))) * (((256 : Int64) - (1 : Int64)) + (1 : Int64))))), .second, .unset] [(.ref b3)]))
    refine OGo.by (fun _ k => XS.astore X12.here hx rfl (hb hby at_168) rfl rfl (l' := #[.val (.int i0), .val (.long i1), .second, .val (.int i2), .val (.int ((i0 &&& (2147483647 : Int32)) % (6 : Int32))), .val (.ref w_NAME), .val (.long (1 : Int64)), .second, .val (.long (256 : Int64)), .second, .val (.long ((1 : Int64) + ((i1 &&& (9223372036854775807 : Int64)) - ((i1 &&& (9223372036854775807 : Int64)) / (((256 : Int64) - (1 : Int64)) + (1 : Int64))) * (((256 : Int64) - (1 : Int64)) + (1 : Int64))))), .second, .val (.ref b3)]) rfl k) ?_
    show OGo p e below _ (T12.setTop (mkF m 170 #[.val (.int i0), .val (.long i1), .second, .val (.int i2), .val (.int ((i0 &&& (2147483647 : Int32)) % (6 : Int32))), .val (.ref w_NAME), .val (.long (1 : Int64)), .second, .val (.long (256 : Int64)), .second, .val (.long ((1 : Int64) + ((i1 &&& (9223372036854775807 : Int64)) - ((i1 &&& (9223372036854775807 : Int64)) / (((256 : Int64) - (1 : Int64)) + (1 : Int64))) * (((256 : Int64) - (1 : Int64)) + (1 : Int64))))), .second, .val (.ref b3)] []))
    refine OGo.by (fun _ k => XS.aload X12.here hx rfl (hb hby at_170) rfl rfl k) ?_
    show OGo p e below _ (T12.setTop (mkF m 172 #[.val (.int i0), .val (.long i1), .second, .val (.int i2), .val (.int ((i0 &&& (2147483647 : Int32)) % (6 : Int32))), .val (.ref w_NAME), .val (.long (1 : Int64)), .second, .val (.long (256 : Int64)), .second, .val (.long ((1 : Int64) + ((i1 &&& (9223372036854775807 : Int64)) - ((i1 &&& (9223372036854775807 : Int64)) / (((256 : Int64) - (1 : Int64)) + (1 : Int64))) * (((256 : Int64) - (1 : Int64)) + (1 : Int64))))), .second, .val (.ref b3)] [(.ref w_NAME)]))
    refine OGo.by (fun _ k => XS.aload X12.here hx rfl (hb hby at_172) rfl rfl k) ?_
    show OGo p e below _ (T12.setTop (mkF m 174 #[.val (.int i0), .val (.long i1), .second, .val (.int i2), .val (.int ((i0 &&& (2147483647 : Int32)) % (6 : Int32))), .val (.ref w_NAME), .val (.long (1 : Int64)), .second, .val (.long (256 : Int64)), .second, .val (.long ((1 : Int64) + ((i1 &&& (9223372036854775807 : Int64)) - ((i1 &&& (9223372036854775807 : Int64)) / (((256 : Int64) - (1 : Int64)) + (1 : Int64))) * (((256 : Int64) - (1 : Int64)) + (1 : Int64))))), .second, .val (.ref b3)] [(.ref b3), (.ref w_NAME)]))
    refine OGo.by (fun _ k => XS.lload X12.here hx rfl (hb hby at_174) rfl k) ?_
    show OGo p e below _ (T12.setTop (mkF m 176 #[.val (.int i0), .val (.long i1), .second, .val (.int i2), .val (.int ((i0 &&& (2147483647 : Int32)) % (6 : Int32))), .val (.ref w_NAME), .val (.long (1 : Int64)), .second, .val (.long (256 : Int64)), .second, .val (.long ((1 : Int64) + ((i1 &&& (9223372036854775807 : Int64)) - ((i1 &&& (9223372036854775807 : Int64)) / (((256 : Int64) - (1 : Int64)) + (1 : Int64))) * (((256 : Int64) - (1 : Int64)) + (1 : Int64))))), .second, .val (.ref b3)] [(.long ((1 : Int64) + ((i1 &&& (9223372036854775807 : Int64)) - ((i1 &&& (9223372036854775807 : Int64)) / (((256 : Int64) - (1 : Int64)) + (1 : Int64))) * (((256 : Int64) - (1 : Int64)) + (1 : Int64))))), (.ref b3), (.ref w_NAME)]))
    have f24 : Fld Z T12.heap w_NAME "com/example/kept_inbox/keptinbox/Limit" "min" "I" (.int (1 : Int32)) := ((((F_NAME_min.ext E3).ext E4).other W11 (Or.inl ne_w_NAME_b4)).keep Kc12 (ninS ne_w_NAME_b3 nin0))
    have f25 : Fld Z T12.heap w_NAME "com/example/kept_inbox/keptinbox/Limit" "max" "I" (.int (256 : Int32)) := ((((F_NAME_max.ext E3).ext E4).other W11 (Or.inl ne_w_NAME_b4)).keep Kc12 (ninS ne_w_NAME_b3 nin0))
    have f26 : Exa Z T12.heap w_NAME "com/example/kept_inbox/keptinbox/Limit" := (f17.keep Kc12)
    obtain ⟨cq23, kq23, q23a, q23b, q23c⟩ := isOf hZ rfl f26
    obtain ⟨_, _, ⟨T23, L23, k23, n23⟩, -, X23, ⟨Lc23, hQ23, l23, y23, z23⟩, st23⟩ := X12.virtualBack hx (y := (⟨"com/example/kept_inbox/keptinbox/Limit", "check", "(Ljava/lang/String;J)V"⟩ : MethodName)) (z := (⟨"com/example/kept_inbox/keptinbox/Limit", "check", "(Ljava/lang/String;J)V"⟩ : MethodName)) hown (mvT hZ (hw _ (List.mem_of_getElem? (i := 36) rfl))) (mvT hZ (hw _ (List.mem_of_getElem? (i := 37) rfl))) (notFace_of_selects (args := #[]) (mvT hZ (hw _ (List.mem_of_getElem? (i := 39) rfl)))) (mvT hZ (hw _ (List.mem_of_getElem? (i := 39) rfl))) (mvT hZ (hw _ (List.mem_of_getElem? (i := 38) rfl))) (by decide) (backOf (W := 0) (rm7 l Z av0 hw [] w_NAME b3 ((1 : Int64) + ((i1 &&& (9223372036854775807 : Int64)) - ((i1 &&& (9223372036854775807 : Int64)) / (((256 : Int64) - (1 : Int64)) + (1 : Int64))) * (((256 : Int64) - (1 : Int64)) + (1 : Int64)))) (1 : Int32) (256 : Int32) T12.heap n0 (Nat.le_trans Z0 K12.1) f24 f25 (own_nlt (own_rng (hi := (256 : Int64)) 1 256 (by decide) (by decide) (by decide) (by decide) (by decide) (own_nn i1)).1 (by decide)) (own_ngt (own_rng (hi := (256 : Int64)) 1 256 (by decide) (by decide) (by decide) (by decide) (by decide) (own_nn i1)).2 (by decide))) hZ (hw _ (List.mem_of_getElem? (i := 40) rfl)) (hw _ (List.mem_of_getElem? (i := 2) rfl)) (by decide) (by decide)) q23a q23c (g := (mkF m 176 #[.val (.int i0), .val (.long i1), .second, .val (.int i2), .val (.int ((i0 &&& (2147483647 : Int32)) % (6 : Int32))), .val (.ref w_NAME), .val (.long (1 : Int64)), .second, .val (.long (256 : Int64)), .second, .val (.long ((1 : Int64) + ((i1 &&& (9223372036854775807 : Int64)) - ((i1 &&& (9223372036854775807 : Int64)) / (((256 : Int64) - (1 : Int64)) + (1 : Int64))) * (((256 : Int64) - (1 : Int64)) + (1 : Int64))))), .second, .val (.ref b3)] [(.long ((1 : Int64) + ((i1 &&& (9223372036854775807 : Int64)) - ((i1 &&& (9223372036854775807 : Int64)) / (((256 : Int64) - (1 : Int64)) + (1 : Int64))) * (((256 : Int64) - (1 : Int64)) + (1 : Int64))))), (.ref b3), (.ref w_NAME)])) rfl (by rw [hml]; rfl) (Steps.refl _) (argsL := [(.ref b3), (.long ((1 : Int64) + ((i1 &&& (9223372036854775807 : Int64)) - ((i1 &&& (9223372036854775807 : Int64)) / (((256 : Int64) - (1 : Int64)) + (1 : Int64))) * (((256 : Int64) - (1 : Int64)) + (1 : Int64)))))]) (rest := []) (lenOf own_pd1 rfl) rfl (by show 2 * 0 + _ ≤ _; exact Nat.le_of_eq rfl) (hb hby at_176) (fun _ _ => ⟨rfl, rfl, (by decide : 3 + 0 ≤ _), (by decide : 6 + 0 ≤ _)⟩)
    dsimp only [Pt.U, Pt.locs, Pt.cells, Pt.slots] at X23 l23 y23 z23 st23 hQ23
    subst l23 y23 z23
    obtain ⟨rfl, N23q, e23⟩ := hQ23
    have N23 := Fr.app N12 N23q
    refine OGo.of st23 ?_
    show OGo p e below _ (T23.setTop (mkF m 179 #[.val (.int i0), .val (.long i1), .second, .val (.int i2), .val (.int ((i0 &&& (2147483647 : Int32)) % (6 : Int32))), .val (.ref w_NAME), .val (.long (1 : Int64)), .second, .val (.long (256 : Int64)), .second, .val (.long ((1 : Int64) + ((i1 &&& (9223372036854775807 : Int64)) - ((i1 &&& (9223372036854775807 : Int64)) / (((256 : Int64) - (1 : Int64)) + (1 : Int64))) * (((256 : Int64) - (1 : Int64)) + (1 : Int64))))), .second, .val (.ref b3)] []))
    refine OGo.by (fun _ k => XS.aload X23.here hx rfl (hb hby at_179) rfl rfl k) ?_
    show OGo p e below _ (T23.setTop (mkF m 181 #[.val (.int i0), .val (.long i1), .second, .val (.int i2), .val (.int ((i0 &&& (2147483647 : Int32)) % (6 : Int32))), .val (.ref w_NAME), .val (.long (1 : Int64)), .second, .val (.long (256 : Int64)), .second, .val (.long ((1 : Int64) + ((i1 &&& (9223372036854775807 : Int64)) - ((i1 &&& (9223372036854775807 : Int64)) / (((256 : Int64) - (1 : Int64)) + (1 : Int64))) * (((256 : Int64) - (1 : Int64)) + (1 : Int64))))), .second, .val (.ref b3)] [(.ref w_NAME)]))
    obtain ⟨cq27, kq27, q27a, q27b, q27c⟩ := isOf hZ e23 f26
    obtain ⟨_, _, ⟨T27, L27, k27, n27⟩, -, X27, ⟨Lc27, hQ27, l27, y27, z27⟩, st27⟩ := X23.virtualBack hx (y := (⟨"com/example/kept_inbox/keptinbox/Limit", "min", "()I"⟩ : MethodName)) (z := (⟨"com/example/kept_inbox/keptinbox/Limit", "min", "()I"⟩ : MethodName)) hown (mvT hZ (hw _ (List.mem_of_getElem? (i := 45) rfl))) (mvT hZ (hw _ (List.mem_of_getElem? (i := 46) rfl))) (notFace_of_selects (args := #[]) (mvT hZ (hw _ (List.mem_of_getElem? (i := 48) rfl)))) (mvT hZ (hw _ (List.mem_of_getElem? (i := 48) rfl))) (mvT hZ (hw _ (List.mem_of_getElem? (i := 47) rfl))) (by decide) (backOf (W := 0) (rm8 l Z av0 hw [] w_NAME (1 : Int32) T12.heap n0 (Nat.le_trans Z0 K12.1) f24) hZ (hw _ (List.mem_of_getElem? (i := 49) rfl)) (hw _ (List.mem_of_getElem? (i := 2) rfl)) (by decide) (by decide)) q27a q27c (g := (mkF m 181 #[.val (.int i0), .val (.long i1), .second, .val (.int i2), .val (.int ((i0 &&& (2147483647 : Int32)) % (6 : Int32))), .val (.ref w_NAME), .val (.long (1 : Int64)), .second, .val (.long (256 : Int64)), .second, .val (.long ((1 : Int64) + ((i1 &&& (9223372036854775807 : Int64)) - ((i1 &&& (9223372036854775807 : Int64)) / (((256 : Int64) - (1 : Int64)) + (1 : Int64))) * (((256 : Int64) - (1 : Int64)) + (1 : Int64))))), .second, .val (.ref b3)] [(.ref w_NAME)])) rfl (by rw [hml]; rfl) (Steps.refl _) (argsL := []) (rest := []) (lenOf own_pd2 rfl) rfl (by show 2 * 0 + _ ≤ _; exact Nat.le_of_eq rfl) (hb hby at_181) (fun _ _ => ⟨rfl, e23, (by decide : 3 + 0 ≤ _), (by decide : 6 + 0 ≤ _)⟩)
    dsimp only [Pt.U, Pt.locs, Pt.cells, Pt.slots] at X27 l27 y27 z27 st27 hQ27
    subst l27 y27 z27
    obtain ⟨rfl, N27q, e27⟩ := hQ27
    have N27 := Fr.app N23 N27q
    refine OGo.of st27 ?_
    show OGo p e below _ (T27.setTop (mkF m 184 #[.val (.int i0), .val (.long i1), .second, .val (.int i2), .val (.int ((i0 &&& (2147483647 : Int32)) % (6 : Int32))), .val (.ref w_NAME), .val (.long (1 : Int64)), .second, .val (.long (256 : Int64)), .second, .val (.long ((1 : Int64) + ((i1 &&& (9223372036854775807 : Int64)) - ((i1 &&& (9223372036854775807 : Int64)) / (((256 : Int64) - (1 : Int64)) + (1 : Int64))) * (((256 : Int64) - (1 : Int64)) + (1 : Int64))))), .second, .val (.ref b3)] [(.int (1 : Int32))]))
    refine OGo.by (fun _ k => XS.i2l X27.here hx rfl (hb hby at_184) rfl k) ?_
    show OGo p e below _ (T27.setTop (mkF m 185 #[.val (.int i0), .val (.long i1), .second, .val (.int i2), .val (.int ((i0 &&& (2147483647 : Int32)) % (6 : Int32))), .val (.ref w_NAME), .val (.long (1 : Int64)), .second, .val (.long (256 : Int64)), .second, .val (.long ((1 : Int64) + ((i1 &&& (9223372036854775807 : Int64)) - ((i1 &&& (9223372036854775807 : Int64)) / (((256 : Int64) - (1 : Int64)) + (1 : Int64))) * (((256 : Int64) - (1 : Int64)) + (1 : Int64))))), .second, .val (.ref b3)] [(.long ((1 : Int32).toInt64))]))
    refine OGo.by (fun _ k => XS.lload X27.here hx rfl (hb hby at_185) rfl k) ?_
    show OGo p e below _ (T27.setTop (mkF m 187 #[.val (.int i0), .val (.long i1), .second, .val (.int i2), .val (.int ((i0 &&& (2147483647 : Int32)) % (6 : Int32))), .val (.ref w_NAME), .val (.long (1 : Int64)), .second, .val (.long (256 : Int64)), .second, .val (.long ((1 : Int64) + ((i1 &&& (9223372036854775807 : Int64)) - ((i1 &&& (9223372036854775807 : Int64)) / (((256 : Int64) - (1 : Int64)) + (1 : Int64))) * (((256 : Int64) - (1 : Int64)) + (1 : Int64))))), .second, .val (.ref b3)] [(.long (1 : Int64)), (.long ((1 : Int32).toInt64))]))
    refine OGo.by (fun _ k => XS.lcmp X27.here hx rfl (hb hby at_187) rfl k) ?_
    show OGo p e below _ (T27.setTop (mkF m 188 #[.val (.int i0), .val (.long i1), .second, .val (.int i2), .val (.int ((i0 &&& (2147483647 : Int32)) % (6 : Int32))), .val (.ref w_NAME), .val (.long (1 : Int64)), .second, .val (.long (256 : Int64)), .second, .val (.long ((1 : Int64) + ((i1 &&& (9223372036854775807 : Int64)) - ((i1 &&& (9223372036854775807 : Int64)) / (((256 : Int64) - (1 : Int64)) + (1 : Int64))) * (((256 : Int64) - (1 : Int64)) + (1 : Int64))))), .second, .val (.ref b3)] [(.int (lcmpW ((1 : Int32).toInt64) (1 : Int64)))]))
    refine OGo.by (fun _ k => XS.ifNo X27.here hx rfl (hb hby at_188) rfl ((if0 _ _).trans (teq ((lw_eq _ _).mpr (by decide : ((1 : Int32).toInt64) = (1 : Int64)))).2) k) ?_
    show OGo p e below _ (T27.setTop (mkF m 191 #[.val (.int i0), .val (.long i1), .second, .val (.int i2), .val (.int ((i0 &&& (2147483647 : Int32)) % (6 : Int32))), .val (.ref w_NAME), .val (.long (1 : Int64)), .second, .val (.long (256 : Int64)), .second, .val (.long ((1 : Int64) + ((i1 &&& (9223372036854775807 : Int64)) - ((i1 &&& (9223372036854775807 : Int64)) / (((256 : Int64) - (1 : Int64)) + (1 : Int64))) * (((256 : Int64) - (1 : Int64)) + (1 : Int64))))), .second, .val (.ref b3)] []))
    refine OGo.by (fun _ k => XS.aload X27.here hx rfl (hb hby at_191) rfl rfl k) ?_
    show OGo p e below _ (T27.setTop (mkF m 193 #[.val (.int i0), .val (.long i1), .second, .val (.int i2), .val (.int ((i0 &&& (2147483647 : Int32)) % (6 : Int32))), .val (.ref w_NAME), .val (.long (1 : Int64)), .second, .val (.long (256 : Int64)), .second, .val (.long ((1 : Int64) + ((i1 &&& (9223372036854775807 : Int64)) - ((i1 &&& (9223372036854775807 : Int64)) / (((256 : Int64) - (1 : Int64)) + (1 : Int64))) * (((256 : Int64) - (1 : Int64)) + (1 : Int64))))), .second, .val (.ref b3)] [(.ref w_NAME)]))
    obtain ⟨cq28, kq28, q28a, q28b, q28c⟩ := isOf hZ e27 f26
    obtain ⟨_, _, ⟨T28, L28, k28, n28⟩, -, X28, ⟨Lc28, hQ28, l28, y28, z28⟩, st28⟩ := X27.virtualBack hx (y := (⟨"com/example/kept_inbox/keptinbox/Limit", "max", "()I"⟩ : MethodName)) (z := (⟨"com/example/kept_inbox/keptinbox/Limit", "max", "()I"⟩ : MethodName)) hown (mvT hZ (hw _ (List.mem_of_getElem? (i := 50) rfl))) (mvT hZ (hw _ (List.mem_of_getElem? (i := 51) rfl))) (notFace_of_selects (args := #[]) (mvT hZ (hw _ (List.mem_of_getElem? (i := 53) rfl)))) (mvT hZ (hw _ (List.mem_of_getElem? (i := 53) rfl))) (mvT hZ (hw _ (List.mem_of_getElem? (i := 52) rfl))) (by decide) (backOf (W := 0) (rm9 l Z av0 hw [] w_NAME (256 : Int32) T12.heap n0 (Nat.le_trans Z0 K12.1) f25) hZ (hw _ (List.mem_of_getElem? (i := 54) rfl)) (hw _ (List.mem_of_getElem? (i := 2) rfl)) (by decide) (by decide)) q28a q28c (g := (mkF m 193 #[.val (.int i0), .val (.long i1), .second, .val (.int i2), .val (.int ((i0 &&& (2147483647 : Int32)) % (6 : Int32))), .val (.ref w_NAME), .val (.long (1 : Int64)), .second, .val (.long (256 : Int64)), .second, .val (.long ((1 : Int64) + ((i1 &&& (9223372036854775807 : Int64)) - ((i1 &&& (9223372036854775807 : Int64)) / (((256 : Int64) - (1 : Int64)) + (1 : Int64))) * (((256 : Int64) - (1 : Int64)) + (1 : Int64))))), .second, .val (.ref b3)] [(.ref w_NAME)])) rfl (by rw [hml]; rfl) (Steps.refl _) (argsL := []) (rest := []) (lenOf own_pd2 rfl) rfl (by show 2 * 0 + _ ≤ _; exact Nat.le_of_eq rfl) (hb hby at_193) (fun _ _ => ⟨rfl, e27, (by decide : 3 + 0 ≤ _), (by decide : 6 + 0 ≤ _)⟩)
    dsimp only [Pt.U, Pt.locs, Pt.cells, Pt.slots] at X28 l28 y28 z28 st28 hQ28
    subst l28 y28 z28
    obtain ⟨rfl, N28q, e28⟩ := hQ28
    have N28 := Fr.app N27 N28q
    refine OGo.of st28 ?_
    show OGo p e below _ (T28.setTop (mkF m 196 #[.val (.int i0), .val (.long i1), .second, .val (.int i2), .val (.int ((i0 &&& (2147483647 : Int32)) % (6 : Int32))), .val (.ref w_NAME), .val (.long (1 : Int64)), .second, .val (.long (256 : Int64)), .second, .val (.long ((1 : Int64) + ((i1 &&& (9223372036854775807 : Int64)) - ((i1 &&& (9223372036854775807 : Int64)) / (((256 : Int64) - (1 : Int64)) + (1 : Int64))) * (((256 : Int64) - (1 : Int64)) + (1 : Int64))))), .second, .val (.ref b3)] [(.int (256 : Int32))]))
    refine OGo.by (fun _ k => XS.i2l X28.here hx rfl (hb hby at_196) rfl k) ?_
    show OGo p e below _ (T28.setTop (mkF m 197 #[.val (.int i0), .val (.long i1), .second, .val (.int i2), .val (.int ((i0 &&& (2147483647 : Int32)) % (6 : Int32))), .val (.ref w_NAME), .val (.long (1 : Int64)), .second, .val (.long (256 : Int64)), .second, .val (.long ((1 : Int64) + ((i1 &&& (9223372036854775807 : Int64)) - ((i1 &&& (9223372036854775807 : Int64)) / (((256 : Int64) - (1 : Int64)) + (1 : Int64))) * (((256 : Int64) - (1 : Int64)) + (1 : Int64))))), .second, .val (.ref b3)] [(.long ((256 : Int32).toInt64))]))
    refine OGo.by (fun _ k => XS.lload X28.here hx rfl (hb hby at_197) rfl k) ?_
    show OGo p e below _ (T28.setTop (mkF m 199 #[.val (.int i0), .val (.long i1), .second, .val (.int i2), .val (.int ((i0 &&& (2147483647 : Int32)) % (6 : Int32))), .val (.ref w_NAME), .val (.long (1 : Int64)), .second, .val (.long (256 : Int64)), .second, .val (.long ((1 : Int64) + ((i1 &&& (9223372036854775807 : Int64)) - ((i1 &&& (9223372036854775807 : Int64)) / (((256 : Int64) - (1 : Int64)) + (1 : Int64))) * (((256 : Int64) - (1 : Int64)) + (1 : Int64))))), .second, .val (.ref b3)] [(.long (256 : Int64)), (.long ((256 : Int32).toInt64))]))
    refine OGo.by (fun _ k => XS.lcmp X28.here hx rfl (hb hby at_199) rfl k) ?_
    show OGo p e below _ (T28.setTop (mkF m 200 #[.val (.int i0), .val (.long i1), .second, .val (.int i2), .val (.int ((i0 &&& (2147483647 : Int32)) % (6 : Int32))), .val (.ref w_NAME), .val (.long (1 : Int64)), .second, .val (.long (256 : Int64)), .second, .val (.long ((1 : Int64) + ((i1 &&& (9223372036854775807 : Int64)) - ((i1 &&& (9223372036854775807 : Int64)) / (((256 : Int64) - (1 : Int64)) + (1 : Int64))) * (((256 : Int64) - (1 : Int64)) + (1 : Int64))))), .second, .val (.ref b3)] [(.int (lcmpW ((256 : Int32).toInt64) (256 : Int64)))]))
    refine OGo.by (fun _ k => XS.ifNo X28.here hx rfl (hb hby at_200) rfl ((if0 _ _).trans (teq ((lw_eq _ _).mpr (by decide : ((256 : Int32).toInt64) = (256 : Int64)))).2) k) ?_
    show OGo p e below _ (T28.setTop (mkF m 203 #[.val (.int i0), .val (.long i1), .second, .val (.int i2), .val (.int ((i0 &&& (2147483647 : Int32)) % (6 : Int32))), .val (.ref w_NAME), .val (.long (1 : Int64)), .second, .val (.long (256 : Int64)), .second, .val (.long ((1 : Int64) + ((i1 &&& (9223372036854775807 : Int64)) - ((i1 &&& (9223372036854775807 : Int64)) / (((256 : Int64) - (1 : Int64)) + (1 : Int64))) * (((256 : Int64) - (1 : Int64)) + (1 : Int64))))), .second, .val (.ref b3)] []))
    refine OGo.by (fun _ k => XS.lload X28.here hx rfl (hb hby at_203) rfl k) ?_
    show OGo p e below _ (T28.setTop (mkF m 205 #[.val (.int i0), .val (.long i1), .second, .val (.int i2), .val (.int ((i0 &&& (2147483647 : Int32)) % (6 : Int32))), .val (.ref w_NAME), .val (.long (1 : Int64)), .second, .val (.long (256 : Int64)), .second, .val (.long ((1 : Int64) + ((i1 &&& (9223372036854775807 : Int64)) - ((i1 &&& (9223372036854775807 : Int64)) / (((256 : Int64) - (1 : Int64)) + (1 : Int64))) * (((256 : Int64) - (1 : Int64)) + (1 : Int64))))), .second, .val (.ref b3)] [(.long ((1 : Int64) + ((i1 &&& (9223372036854775807 : Int64)) - ((i1 &&& (9223372036854775807 : Int64)) / (((256 : Int64) - (1 : Int64)) + (1 : Int64))) * (((256 : Int64) - (1 : Int64)) + (1 : Int64)))))]))
    refine OGo.by (fun _ k => XS.lload X28.here hx rfl (hb hby at_205) rfl k) ?_
    show OGo p e below _ (T28.setTop (mkF m 207 #[.val (.int i0), .val (.long i1), .second, .val (.int i2), .val (.int ((i0 &&& (2147483647 : Int32)) % (6 : Int32))), .val (.ref w_NAME), .val (.long (1 : Int64)), .second, .val (.long (256 : Int64)), .second, .val (.long ((1 : Int64) + ((i1 &&& (9223372036854775807 : Int64)) - ((i1 &&& (9223372036854775807 : Int64)) / (((256 : Int64) - (1 : Int64)) + (1 : Int64))) * (((256 : Int64) - (1 : Int64)) + (1 : Int64))))), .second, .val (.ref b3)] [(.long (1 : Int64)), (.long ((1 : Int64) + ((i1 &&& (9223372036854775807 : Int64)) - ((i1 &&& (9223372036854775807 : Int64)) / (((256 : Int64) - (1 : Int64)) + (1 : Int64))) * (((256 : Int64) - (1 : Int64)) + (1 : Int64)))))]))
    refine OGo.by (fun _ k => XS.lcmp X28.here hx rfl (hb hby at_207) rfl k) ?_
    show OGo p e below _ (T28.setTop (mkF m 208 #[.val (.int i0), .val (.long i1), .second, .val (.int i2), .val (.int ((i0 &&& (2147483647 : Int32)) % (6 : Int32))), .val (.ref w_NAME), .val (.long (1 : Int64)), .second, .val (.long (256 : Int64)), .second, .val (.long ((1 : Int64) + ((i1 &&& (9223372036854775807 : Int64)) - ((i1 &&& (9223372036854775807 : Int64)) / (((256 : Int64) - (1 : Int64)) + (1 : Int64))) * (((256 : Int64) - (1 : Int64)) + (1 : Int64))))), .second, .val (.ref b3)] [(.int (lcmpW ((1 : Int64) + ((i1 &&& (9223372036854775807 : Int64)) - ((i1 &&& (9223372036854775807 : Int64)) / (((256 : Int64) - (1 : Int64)) + (1 : Int64))) * (((256 : Int64) - (1 : Int64)) + (1 : Int64)))) (1 : Int64)))]))
    refine OGo.by (fun _ k => XS.ifNo X28.here hx rfl (hb hby at_208) rfl ((if0 _ _).trans (flt (mt (lw_lt _ _).mp (own_nlt (own_rng (hi := (256 : Int64)) 1 256 (by decide) (by decide) (by decide) (by decide) (by decide) (own_nn i1)).1 (by decide)))).1) k) ?_
    show OGo p e below _ (T28.setTop (mkF m 211 #[.val (.int i0), .val (.long i1), .second, .val (.int i2), .val (.int ((i0 &&& (2147483647 : Int32)) % (6 : Int32))), .val (.ref w_NAME), .val (.long (1 : Int64)), .second, .val (.long (256 : Int64)), .second, .val (.long ((1 : Int64) + ((i1 &&& (9223372036854775807 : Int64)) - ((i1 &&& (9223372036854775807 : Int64)) / (((256 : Int64) - (1 : Int64)) + (1 : Int64))) * (((256 : Int64) - (1 : Int64)) + (1 : Int64))))), .second, .val (.ref b3)] []))
    refine OGo.by (fun _ k => XS.lload X28.here hx rfl (hb hby at_211) rfl k) ?_
    show OGo p e below _ (T28.setTop (mkF m 213 #[.val (.int i0), .val (.long i1), .second, .val (.int i2), .val (.int ((i0 &&& (2147483647 : Int32)) % (6 : Int32))), .val (.ref w_NAME), .val (.long (1 : Int64)), .second, .val (.long (256 : Int64)), .second, .val (.long ((1 : Int64) + ((i1 &&& (9223372036854775807 : Int64)) - ((i1 &&& (9223372036854775807 : Int64)) / (((256 : Int64) - (1 : Int64)) + (1 : Int64))) * (((256 : Int64) - (1 : Int64)) + (1 : Int64))))), .second, .val (.ref b3)] [(.long ((1 : Int64) + ((i1 &&& (9223372036854775807 : Int64)) - ((i1 &&& (9223372036854775807 : Int64)) / (((256 : Int64) - (1 : Int64)) + (1 : Int64))) * (((256 : Int64) - (1 : Int64)) + (1 : Int64)))))]))
    refine OGo.by (fun _ k => XS.lload X28.here hx rfl (hb hby at_213) rfl k) ?_
    show OGo p e below _ (T28.setTop (mkF m 215 #[.val (.int i0), .val (.long i1), .second, .val (.int i2), .val (.int ((i0 &&& (2147483647 : Int32)) % (6 : Int32))), .val (.ref w_NAME), .val (.long (1 : Int64)), .second, .val (.long (256 : Int64)), .second, .val (.long ((1 : Int64) + ((i1 &&& (9223372036854775807 : Int64)) - ((i1 &&& (9223372036854775807 : Int64)) / (((256 : Int64) - (1 : Int64)) + (1 : Int64))) * (((256 : Int64) - (1 : Int64)) + (1 : Int64))))), .second, .val (.ref b3)] [(.long (256 : Int64)), (.long ((1 : Int64) + ((i1 &&& (9223372036854775807 : Int64)) - ((i1 &&& (9223372036854775807 : Int64)) / (((256 : Int64) - (1 : Int64)) + (1 : Int64))) * (((256 : Int64) - (1 : Int64)) + (1 : Int64)))))]))
    refine OGo.by (fun _ k => XS.lcmp X28.here hx rfl (hb hby at_215) rfl k) ?_
    show OGo p e below _ (T28.setTop (mkF m 216 #[.val (.int i0), .val (.long i1), .second, .val (.int i2), .val (.int ((i0 &&& (2147483647 : Int32)) % (6 : Int32))), .val (.ref w_NAME), .val (.long (1 : Int64)), .second, .val (.long (256 : Int64)), .second, .val (.long ((1 : Int64) + ((i1 &&& (9223372036854775807 : Int64)) - ((i1 &&& (9223372036854775807 : Int64)) / (((256 : Int64) - (1 : Int64)) + (1 : Int64))) * (((256 : Int64) - (1 : Int64)) + (1 : Int64))))), .second, .val (.ref b3)] [(.int (lcmpW ((1 : Int64) + ((i1 &&& (9223372036854775807 : Int64)) - ((i1 &&& (9223372036854775807 : Int64)) / (((256 : Int64) - (1 : Int64)) + (1 : Int64))) * (((256 : Int64) - (1 : Int64)) + (1 : Int64)))) (256 : Int64)))]))
    refine OGo.by (fun _ k => XS.ifNo X28.here hx rfl (hb hby at_216) rfl ((if0 _ _).trans (flt (mt (lw_gt _ _).mp (own_ngt (own_rng (hi := (256 : Int64)) 1 256 (by decide) (by decide) (by decide) (by decide) (by decide) (own_nn i1)).2 (by decide)))).2.2.1) k) ?_
    show OGo p e below _ (T28.setTop (mkF m 219 #[.val (.int i0), .val (.long i1), .second, .val (.int i2), .val (.int ((i0 &&& (2147483647 : Int32)) % (6 : Int32))), .val (.ref w_NAME), .val (.long (1 : Int64)), .second, .val (.long (256 : Int64)), .second, .val (.long ((1 : Int64) + ((i1 &&& (9223372036854775807 : Int64)) - ((i1 &&& (9223372036854775807 : Int64)) / (((256 : Int64) - (1 : Int64)) + (1 : Int64))) * (((256 : Int64) - (1 : Int64)) + (1 : Int64))))), .second, .val (.ref b3)] []))
    refine OGo.by (fun _ k => XS.iconst X28.here hx rfl (hb hby at_219) k) ?_
    show OGo p e below _ (T28.setTop (mkF m 220 #[.val (.int i0), .val (.long i1), .second, .val (.int i2), .val (.int ((i0 &&& (2147483647 : Int32)) % (6 : Int32))), .val (.ref w_NAME), .val (.long (1 : Int64)), .second, .val (.long (256 : Int64)), .second, .val (.long ((1 : Int64) + ((i1 &&& (9223372036854775807 : Int64)) - ((i1 &&& (9223372036854775807 : Int64)) / (((256 : Int64) - (1 : Int64)) + (1 : Int64))) * (((256 : Int64) - (1 : Int64)) + (1 : Int64))))), .second, .val (.ref b3)] [(.int (1 : Int32))]))
    refine OGo.by (fun _ k => XS.goto X28.here hx rfl (pc0 := 220) (pc' := 224) rfl (hb hby at_220) (by decide) (by decide) k) ?_
    show OGo p e below _ (T28.setTop (mkF m 224 #[.val (.int i0), .val (.long i1), .second, .val (.int i2), .val (.int ((i0 &&& (2147483647 : Int32)) % (6 : Int32))), .val (.ref w_NAME), .val (.long (1 : Int64)), .second, .val (.long (256 : Int64)), .second, .val (.long ((1 : Int64) + ((i1 &&& (9223372036854775807 : Int64)) - ((i1 &&& (9223372036854775807 : Int64)) / (((256 : Int64) - (1 : Int64)) + (1 : Int64))) * (((256 : Int64) - (1 : Int64)) + (1 : Int64))))), .second, .val (.ref b3)] [(.int (1 : Int32))]))
    obtain ⟨fs, hr, hrun, hended, hW, hsame⟩ := X28.leave (v := some (.int (1 : Int32))) (fun h => by rw [Bd.returns] at h; cases h)
    refine OGo.ret (retN X28 hx (t := .boolean) Bd.returns (by simp) (hb hby at_224) hr) hrun hended ⟨_, _, rfl, ?_, ⟨_, rfl⟩, hW, hsame.mono (by decide) (by decide)⟩
    show Q_rm0 Z i0 i1 i2 w_NAME w_TITLE w_BODY w_RECIPIENTS w_MEMBERS w_SUBSCRIBER_IDS cz h0 n0 _ T28.heap _
    rw [e28]
    exact ⟨rfl, N28⟩
  · refine OGo.by (fun _ k => XS.ifYes X0.here hx rfl (pc0 := 11) (pc' := 30) rfl (hb hby at_11) rfl ((if0 _ _).trans (feq hc11_1).2) (by decide) (by decide) k) ?_
    show OGo p e below _ (s₁.setTop (mkF m 30 #[.val (.int i0), .val (.long i1), .second, .val (.int i2), .val (.int ((i0 &&& (2147483647 : Int32)) % (6 : Int32))), .unset, .unset, .unset, .unset, .unset, .unset, .unset, .unset] []))
    refine OGo.by (fun _ k => XS.iload X0.here hx rfl (hb hby at_30) rfl k) ?_
    show OGo p e below _ (s₁.setTop (mkF m 32 #[.val (.int i0), .val (.long i1), .second, .val (.int i2), .val (.int ((i0 &&& (2147483647 : Int32)) % (6 : Int32))), .unset, .unset, .unset, .unset, .unset, .unset, .unset, .unset] [(.int ((i0 &&& (2147483647 : Int32)) % (6 : Int32)))]))
    refine OGo.by (fun _ k => XS.iconst X0.here hx rfl (hb hby at_32) k) ?_
    show OGo p e below _ (s₁.setTop (mkF m 33 #[.val (.int i0), .val (.long i1), .second, .val (.int i2), .val (.int ((i0 &&& (2147483647 : Int32)) % (6 : Int32))), .unset, .unset, .unset, .unset, .unset, .unset, .unset, .unset] [(.int (1 : Int32)), (.int ((i0 &&& (2147483647 : Int32)) % (6 : Int32)))]))
    by_cases hc33_29 : ((i0 &&& (2147483647 : Int32)) % (6 : Int32)) = (1 : Int32)
    · refine OGo.by (fun _ k => XS.icmpNo X0.here hx rfl (hb hby at_33) rfl (teq hc33_29).2 k) ?_
      show OGo p e below _ (s₁.setTop (mkF m 36 #[.val (.int i0), .val (.long i1), .second, .val (.int i2), .val (.int ((i0 &&& (2147483647 : Int32)) % (6 : Int32))), .unset, .unset, .unset, .unset, .unset, .unset, .unset, .unset] []))
      obtain ⟨T30, X30, e30, st30⟩ := getS2 X0 hx hZ hown (host := "") (Or.inl (hw _ (List.mem_of_getElem? (i := 55) rfl))) Via.refl e0 (S_TITLE.ext O0.2) (g := (mkF m 36 #[.val (.int i0), .val (.long i1), .second, .val (.int i2), .val (.int ((i0 &&& (2147483647 : Int32)) % (6 : Int32))), .unset, .unset, .unset, .unset, .unset, .unset, .unset, .unset] [])) rfl (hb hby at_36)
      refine OGo.by st30 ?_
      show OGo p e below _ (T30.setTop (mkF m 39 #[.val (.int i0), .val (.long i1), .second, .val (.int i2), .val (.int ((i0 &&& (2147483647 : Int32)) % (6 : Int32))), .unset, .unset, .unset, .unset, .unset, .unset, .unset, .unset] [(.ref w_TITLE)]))
      refine OGo.by (fun _ k => XS.astore X30.here hx rfl (hb hby at_39) rfl rfl (l' := #[.val (.int i0), .val (.long i1), .second, .val (.int i2), .val (.int ((i0 &&& (2147483647 : Int32)) % (6 : Int32))), .val (.ref w_TITLE), .unset, .unset, .unset, .unset, .unset, .unset, .unset]) rfl k) ?_
      show OGo p e below _ (T30.setTop (mkF m 41 #[.val (.int i0), .val (.long i1), .second, .val (.int i2), .val (.int ((i0 &&& (2147483647 : Int32)) % (6 : Int32))), .val (.ref w_TITLE), .unset, .unset, .unset, .unset, .unset, .unset, .unset] []))
      refine OGo.by (fun _ k => XS.lconst X30.here hx rfl (hb hby at_41) k) ?_
      show OGo p e below _ (T30.setTop (mkF m 42 #[.val (.int i0), .val (.long i1), .second, .val (.int i2), .val (.int ((i0 &&& (2147483647 : Int32)) % (6 : Int32))), .val (.ref w_TITLE), .unset, .unset, .unset, .unset, .unset, .unset, .unset] [(.long (1 : Int64))]))
      refine OGo.by (fun _ k => XS.lstore X30.here hx rfl (hb hby at_42) rfl (l' := #[.val (.int i0), .val (.long i1), .second, .val (.int i2), .val (.int ((i0 &&& (2147483647 : Int32)) % (6 : Int32))), .val (.ref w_TITLE), .val (.long (1 : Int64)), .second, .unset, .unset, .unset, .unset, .unset]) rfl k) ?_
      show OGo p e below _ (T30.setTop (mkF m 44 #[.val (.int i0), .val (.long i1), .second, .val (.int i2), .val (.int ((i0 &&& (2147483647 : Int32)) % (6 : Int32))), .val (.ref w_TITLE), .val (.long (1 : Int64)), .second, .unset, .unset, .unset, .unset, .unset] []))
      refine OGo.by (X30.ldc2Long hx hown (mvT hZ (hw _ (List.mem_of_getElem? (i := 57) rfl))) (g := (mkF m 44 #[.val (.int i0), .val (.long i1), .second, .val (.int i2), .val (.int ((i0 &&& (2147483647 : Int32)) % (6 : Int32))), .val (.ref w_TITLE), .val (.long (1 : Int64)), .second, .unset, .unset, .unset, .unset, .unset] [])) rfl (hb hby at_44)) ?_
      show OGo p e below _ (T30.setTop (mkF m 47 #[.val (.int i0), .val (.long i1), .second, .val (.int i2), .val (.int ((i0 &&& (2147483647 : Int32)) % (6 : Int32))), .val (.ref w_TITLE), .val (.long (1 : Int64)), .second, .unset, .unset, .unset, .unset, .unset] [(.long (1024 : Int64))]))
      refine OGo.by (fun _ k => XS.lstore X30.here hx rfl (hb hby at_47) rfl (l' := #[.val (.int i0), .val (.long i1), .second, .val (.int i2), .val (.int ((i0 &&& (2147483647 : Int32)) % (6 : Int32))), .val (.ref w_TITLE), .val (.long (1 : Int64)), .second, .val (.long (1024 : Int64)), .second, .unset, .unset, .unset]) rfl k) ?_
      show OGo p e below _ (T30.setTop (mkF m 49 #[.val (.int i0), .val (.long i1), .second, .val (.int i2), .val (.int ((i0 &&& (2147483647 : Int32)) % (6 : Int32))), .val (.ref w_TITLE), .val (.long (1 : Int64)), .second, .val (.long (1024 : Int64)), .second, .unset, .unset, .unset] []))
      refine OGo.by (fun _ k => XS.goto X30.here hx rfl (pc0 := 49) (pc' := 131) rfl (hb hby at_49) (by decide) (by decide) k) ?_
      show OGo p e below _ (T30.setTop (mkF m 131 #[.val (.int i0), .val (.long i1), .second, .val (.int i2), .val (.int ((i0 &&& (2147483647 : Int32)) % (6 : Int32))), .val (.ref w_TITLE), .val (.long (1 : Int64)), .second, .val (.long (1024 : Int64)), .second, .unset, .unset, .unset] []))
      refine OGo.by (fun _ k => XS.lload X30.here hx rfl (hb hby at_131) rfl k) ?_
      show OGo p e below _ (T30.setTop (mkF m 133 #[.val (.int i0), .val (.long i1), .second, .val (.int i2), .val (.int ((i0 &&& (2147483647 : Int32)) % (6 : Int32))), .val (.ref w_TITLE), .val (.long (1 : Int64)), .second, .val (.long (1024 : Int64)), .second, .unset, .unset, .unset] [(.long (1 : Int64))]))
      refine OGo.by (fun _ k => XS.lloadN X30.here hx rfl (hb hby at_133) rfl k) ?_
      show OGo p e below _ (T30.setTop (mkF m 134 #[.val (.int i0), .val (.long i1), .second, .val (.int i2), .val (.int ((i0 &&& (2147483647 : Int32)) % (6 : Int32))), .val (.ref w_TITLE), .val (.long (1 : Int64)), .second, .val (.long (1024 : Int64)), .second, .unset, .unset, .unset] [(.long i1), (.long (1 : Int64))]))
      refine OGo.by (X30.ldc2Long hx hown (mvT hZ (hw _ (List.mem_of_getElem? (i := 5) rfl))) (g := (mkF m 134 #[.val (.int i0), .val (.long i1), .second, .val (.int i2), .val (.int ((i0 &&& (2147483647 : Int32)) % (6 : Int32))), .val (.ref w_TITLE), .val (.long (1 : Int64)), .second, .val (.long (1024 : Int64)), .second, .unset, .unset, .unset] [(.long i1), (.long (1 : Int64))])) rfl (hb hby at_134)) ?_
      show OGo p e below _ (T30.setTop (mkF m 137 #[.val (.int i0), .val (.long i1), .second, .val (.int i2), .val (.int ((i0 &&& (2147483647 : Int32)) % (6 : Int32))), .val (.ref w_TITLE), .val (.long (1 : Int64)), .second, .val (.long (1024 : Int64)), .second, .unset, .unset, .unset] [(.long (9223372036854775807 : Int64)), (.long i1), (.long (1 : Int64))]))
      refine OGo.by (fun _ k => XS.land X30.here hx rfl (hb hby at_137) rfl k) ?_
      show OGo p e below _ (T30.setTop (mkF m 138 #[.val (.int i0), .val (.long i1), .second, .val (.int i2), .val (.int ((i0 &&& (2147483647 : Int32)) % (6 : Int32))), .val (.ref w_TITLE), .val (.long (1 : Int64)), .second, .val (.long (1024 : Int64)), .second, .unset, .unset, .unset] [(.long (i1 &&& (9223372036854775807 : Int64))), (.long (1 : Int64))]))
      refine OGo.by (fun _ k => XS.lload X30.here hx rfl (hb hby at_138) rfl k) ?_
      show OGo p e below _ (T30.setTop (mkF m 140 #[.val (.int i0), .val (.long i1), .second, .val (.int i2), .val (.int ((i0 &&& (2147483647 : Int32)) % (6 : Int32))), .val (.ref w_TITLE), .val (.long (1 : Int64)), .second, .val (.long (1024 : Int64)), .second, .unset, .unset, .unset] [(.long (1024 : Int64)), (.long (i1 &&& (9223372036854775807 : Int64))), (.long (1 : Int64))]))
      refine OGo.by (fun _ k => XS.lload X30.here hx rfl (hb hby at_140) rfl k) ?_
      show OGo p e below _ (T30.setTop (mkF m 142 #[.val (.int i0), .val (.long i1), .second, .val (.int i2), .val (.int ((i0 &&& (2147483647 : Int32)) % (6 : Int32))), .val (.ref w_TITLE), .val (.long (1 : Int64)), .second, .val (.long (1024 : Int64)), .second, .unset, .unset, .unset] [(.long (1 : Int64)), (.long (1024 : Int64)), (.long (i1 &&& (9223372036854775807 : Int64))), (.long (1 : Int64))]))
      refine OGo.by (fun _ k => XS.lsub X30.here hx rfl (hb hby at_142) rfl k) ?_
      show OGo p e below _ (T30.setTop (mkF m 143 #[.val (.int i0), .val (.long i1), .second, .val (.int i2), .val (.int ((i0 &&& (2147483647 : Int32)) % (6 : Int32))), .val (.ref w_TITLE), .val (.long (1 : Int64)), .second, .val (.long (1024 : Int64)), .second, .unset, .unset, .unset] [(.long ((1024 : Int64) - (1 : Int64))), (.long (i1 &&& (9223372036854775807 : Int64))), (.long (1 : Int64))]))
      refine OGo.by (fun _ k => XS.lconst X30.here hx rfl (hb hby at_143) k) ?_
      show OGo p e below _ (T30.setTop (mkF m 144 #[.val (.int i0), .val (.long i1), .second, .val (.int i2), .val (.int ((i0 &&& (2147483647 : Int32)) % (6 : Int32))), .val (.ref w_TITLE), .val (.long (1 : Int64)), .second, .val (.long (1024 : Int64)), .second, .unset, .unset, .unset] [(.long (1 : Int64)), (.long ((1024 : Int64) - (1 : Int64))), (.long (i1 &&& (9223372036854775807 : Int64))), (.long (1 : Int64))]))
      refine OGo.by (fun _ k => XS.ladd X30.here hx rfl (hb hby at_144) rfl k) ?_
      show OGo p e below _ (T30.setTop (mkF m 145 #[.val (.int i0), .val (.long i1), .second, .val (.int i2), .val (.int ((i0 &&& (2147483647 : Int32)) % (6 : Int32))), .val (.ref w_TITLE), .val (.long (1 : Int64)), .second, .val (.long (1024 : Int64)), .second, .unset, .unset, .unset] [(.long (((1024 : Int64) - (1 : Int64)) + (1 : Int64))), (.long (i1 &&& (9223372036854775807 : Int64))), (.long (1 : Int64))]))
      refine OGo.by (fun _ k => XS.lrem X30.here hx rfl (hb hby at_145) rfl (by decide) k) ?_
      show OGo p e below _ (T30.setTop (mkF m 146 #[.val (.int i0), .val (.long i1), .second, .val (.int i2), .val (.int ((i0 &&& (2147483647 : Int32)) % (6 : Int32))), .val (.ref w_TITLE), .val (.long (1 : Int64)), .second, .val (.long (1024 : Int64)), .second, .unset, .unset, .unset] [(.long ((i1 &&& (9223372036854775807 : Int64)) - ((i1 &&& (9223372036854775807 : Int64)) / (((1024 : Int64) - (1 : Int64)) + (1 : Int64))) * (((1024 : Int64) - (1 : Int64)) + (1 : Int64)))), (.long (1 : Int64))]))
      refine OGo.by (fun _ k => XS.ladd X30.here hx rfl (hb hby at_146) rfl k) ?_
      show OGo p e below _ (T30.setTop (mkF m 147 #[.val (.int i0), .val (.long i1), .second, .val (.int i2), .val (.int ((i0 &&& (2147483647 : Int32)) % (6 : Int32))), .val (.ref w_TITLE), .val (.long (1 : Int64)), .second, .val (.long (1024 : Int64)), .second, .unset, .unset, .unset] [(.long ((1 : Int64) + ((i1 &&& (9223372036854775807 : Int64)) - ((i1 &&& (9223372036854775807 : Int64)) / (((1024 : Int64) - (1 : Int64)) + (1 : Int64))) * (((1024 : Int64) - (1 : Int64)) + (1 : Int64)))))]))
      refine OGo.by (fun _ k => XS.lstore X30.here hx rfl (hb hby at_147) rfl (l' := #[.val (.int i0), .val (.long i1), .second, .val (.int i2), .val (.int ((i0 &&& (2147483647 : Int32)) % (6 : Int32))), .val (.ref w_TITLE), .val (.long (1 : Int64)), .second, .val (.long (1024 : Int64)), .second, .val (.long ((1 : Int64) + ((i1 &&& (9223372036854775807 : Int64)) - ((i1 &&& (9223372036854775807 : Int64)) / (((1024 : Int64) - (1 : Int64)) + (1 : Int64))) * (((1024 : Int64) - (1 : Int64)) + (1 : Int64))))), .second, .unset]) rfl k) ?_
      show OGo p e below _ (T30.setTop (mkF m 149 #[.val (.int i0), .val (.long i1), .second, .val (.int i2), .val (.int ((i0 &&& (2147483647 : Int32)) % (6 : Int32))), .val (.ref w_TITLE), .val (.long (1 : Int64)), .second, .val (.long (1024 : Int64)), .second, .val (.long ((1 : Int64) + ((i1 &&& (9223372036854775807 : Int64)) - ((i1 &&& (9223372036854775807 : Int64)) / (((1024 : Int64) - (1 : Int64)) + (1 : Int64))) * (((1024 : Int64) - (1 : Int64)) + (1 : Int64))))), .second, .unset] []))
      obtain ⟨T31, h31, X31, e31, E31, A31, D31, U31, st31⟩ := newO X30 hx hZ hown (hw _ (List.mem_of_getElem? (i := 6) rfl)) (hw _ (List.mem_of_getElem? (i := 7) rfl)) (hw _ (List.mem_of_getElem? (i := 8) rfl)) e30 (g := (mkF m 149 #[.val (.int i0), .val (.long i1), .second, .val (.int i2), .val (.int ((i0 &&& (2147483647 : Int32)) % (6 : Int32))), .val (.ref w_TITLE), .val (.long (1 : Int64)), .second, .val (.long (1024 : Int64)), .second, .val (.long ((1 : Int64) + ((i1 &&& (9223372036854775807 : Int64)) - ((i1 &&& (9223372036854775807 : Int64)) / (((1024 : Int64) - (1 : Int64)) + (1 : Int64))) * (((1024 : Int64) - (1 : Int64)) + (1 : Int64))))), .second, .unset] [])) rfl (hb hby at_149) (by decide) (by decide)
      obtain ⟨b31, g31⟩ : ∃ z, z = h0.size := ⟨_, rfl⟩
      rw [← g31] at A31 D31 U31 st31
      have ne_w_NAME_b31 : w_NAME ≠ b31 := Nat.ne_of_lt (Nat.lt_of_lt_of_le E_NAME.lt (Nat.le_of_eq g31.symm))
      have ne_w_TITLE_b31 : w_TITLE ≠ b31 := Nat.ne_of_lt (Nat.lt_of_lt_of_le E_TITLE.lt (Nat.le_of_eq g31.symm))
      have ne_w_BODY_b31 : w_BODY ≠ b31 := Nat.ne_of_lt (Nat.lt_of_lt_of_le E_BODY.lt (Nat.le_of_eq g31.symm))
      have ne_w_RECIPIENTS_b31 : w_RECIPIENTS ≠ b31 := Nat.ne_of_lt (Nat.lt_of_lt_of_le E_RECIPIENTS.lt (Nat.le_of_eq g31.symm))
      have ne_w_MEMBERS_b31 : w_MEMBERS ≠ b31 := Nat.ne_of_lt (Nat.lt_of_lt_of_le E_MEMBERS.lt (Nat.le_of_eq g31.symm))
      have ne_w_SUBSCRIBER_IDS_b31 : w_SUBSCRIBER_IDS ≠ b31 := Nat.ne_of_lt (Nat.lt_of_lt_of_le E_SUBSCRIBER_IDS.lt (Nat.le_of_eq g31.symm))
      have g_b31 : n0 ≤ b31 := Nat.le_trans Z0 (Nat.le_of_eq g31.symm)
      have sz_b31 : h0.size ≤ b31 := Nat.le_trans (Nat.le_refl _) (Nat.le_of_eq g31.symm)
      refine OGo.by st31 ?_
      have K31 : Keep h0 h31 [] := ((Keep.refl h0 [])).ext E31
      have F31_coder : Fld Z h31 b31 "java/lang/String" "coder" "B" (.int (0 : Int32)) := D31 (Or.inr (hw _ (List.mem_of_getElem? (i := 33) rfl))) (ty := .byte) (by decide)
      have F31_value : Fld Z h31 b31 "java/lang/String" "value" "[B" .null := D31 (Or.inr (hw _ (List.mem_of_getElem? (i := 35) rfl))) (ty := (.array .byte)) (by decide)
      show OGo p e below _ (T31.setTop (mkF m 152 #[.val (.int i0), .val (.long i1), .second, .val (.int i2), .val (.int ((i0 &&& (2147483647 : Int32)) % (6 : Int32))), .val (.ref w_TITLE), .val (.long (1 : Int64)), .second, .val (.long (1024 : Int64)), .second, .val (.long ((1 : Int64) + ((i1 &&& (9223372036854775807 : Int64)) - ((i1 &&& (9223372036854775807 : Int64)) / (((1024 : Int64) - (1 : Int64)) + (1 : Int64))) * (((1024 : Int64) - (1 : Int64)) + (1 : Int64))))), .second, .unset] [(.ref b31)]))
      refine OGo.by (fun _ k => XS.dup X31.here hx rfl (hb hby at_152) rfl rfl k) ?_
      show OGo p e below _ (T31.setTop (mkF m 153 #[.val (.int i0), .val (.long i1), .second, .val (.int i2), .val (.int ((i0 &&& (2147483647 : Int32)) % (6 : Int32))), .val (.ref w_TITLE), .val (.long (1 : Int64)), .second, .val (.long (1024 : Int64)), .second, .val (.long ((1 : Int64) + ((i1 &&& (9223372036854775807 : Int64)) - ((i1 &&& (9223372036854775807 : Int64)) / (((1024 : Int64) - (1 : Int64)) + (1 : Int64))) * (((1024 : Int64) - (1 : Int64)) + (1 : Int64))))), .second, .unset] [(.ref b31), (.ref b31)]))
      refine OGo.by (fun _ k => XS.iconst X31.here hx rfl (hb hby at_153) k) ?_
      show OGo p e below _ (T31.setTop (mkF m 154 #[.val (.int i0), .val (.long i1), .second, .val (.int i2), .val (.int ((i0 &&& (2147483647 : Int32)) % (6 : Int32))), .val (.ref w_TITLE), .val (.long (1 : Int64)), .second, .val (.long (1024 : Int64)), .second, .val (.long ((1 : Int64) + ((i1 &&& (9223372036854775807 : Int64)) - ((i1 &&& (9223372036854775807 : Int64)) / (((1024 : Int64) - (1 : Int64)) + (1 : Int64))) * (((1024 : Int64) - (1 : Int64)) + (1 : Int64))))), .second, .unset] [(.int (1 : Int32)), (.ref b31), (.ref b31)]))
      obtain ⟨T32, h32, k32, X32, e32, E32, A32, st32⟩ := newP X31 hx hZ (hw _ (List.mem_of_getElem? (i := 9) rfl)) e31 (g := (mkF m 154 #[.val (.int i0), .val (.long i1), .second, .val (.int i2), .val (.int ((i0 &&& (2147483647 : Int32)) % (6 : Int32))), .val (.ref w_TITLE), .val (.long (1 : Int64)), .second, .val (.long (1024 : Int64)), .second, .val (.long ((1 : Int64) + ((i1 &&& (9223372036854775807 : Int64)) - ((i1 &&& (9223372036854775807 : Int64)) / (((1024 : Int64) - (1 : Int64)) + (1 : Int64))) * (((1024 : Int64) - (1 : Int64)) + (1 : Int64))))), .second, .unset] [(.int (1 : Int32)), (.ref b31), (.ref b31)])) rfl (hb hby at_154) rfl (by decide : ¬ ((1 : Int32) < (0 : Int32))) (cap := 1) (by decide) (by decide) (by decide) (by decide)
      obtain ⟨b32, g32⟩ : ∃ z, z = h31.size := ⟨_, rfl⟩
      rw [← g32] at A32 st32
      have f33 : Exa Z h31 w_NAME "com/example/kept_inbox/keptinbox/Limit" := (E_NAME.ext E31)
      have ne_w_NAME_b32 : w_NAME ≠ b32 := Nat.ne_of_lt (Nat.lt_of_lt_of_le f33.lt (Nat.le_of_eq g32.symm))
      have f34 : Exa Z h31 w_TITLE "com/example/kept_inbox/keptinbox/Limit" := (E_TITLE.ext E31)
      have ne_w_TITLE_b32 : w_TITLE ≠ b32 := Nat.ne_of_lt (Nat.lt_of_lt_of_le f34.lt (Nat.le_of_eq g32.symm))
      have f35 : Exa Z h31 w_BODY "com/example/kept_inbox/keptinbox/Limit" := (E_BODY.ext E31)
      have ne_w_BODY_b32 : w_BODY ≠ b32 := Nat.ne_of_lt (Nat.lt_of_lt_of_le f35.lt (Nat.le_of_eq g32.symm))
      have f36 : Exa Z h31 w_RECIPIENTS "com/example/kept_inbox/keptinbox/Limit" := (E_RECIPIENTS.ext E31)
      have ne_w_RECIPIENTS_b32 : w_RECIPIENTS ≠ b32 := Nat.ne_of_lt (Nat.lt_of_lt_of_le f36.lt (Nat.le_of_eq g32.symm))
      have f37 : Exa Z h31 w_MEMBERS "com/example/kept_inbox/keptinbox/Limit" := (E_MEMBERS.ext E31)
      have ne_w_MEMBERS_b32 : w_MEMBERS ≠ b32 := Nat.ne_of_lt (Nat.lt_of_lt_of_le f37.lt (Nat.le_of_eq g32.symm))
      have f38 : Exa Z h31 w_SUBSCRIBER_IDS "com/example/kept_inbox/keptinbox/Limit" := (E_SUBSCRIBER_IDS.ext E31)
      have ne_w_SUBSCRIBER_IDS_b32 : w_SUBSCRIBER_IDS ≠ b32 := Nat.ne_of_lt (Nat.lt_of_lt_of_le f38.lt (Nat.le_of_eq g32.symm))
      have ne_b31_b32 : b31 ≠ b32 := Nat.ne_of_lt (Nat.lt_of_lt_of_le A31.lt (Nat.le_of_eq g32.symm))
      have g_b32 : n0 ≤ b32 := Nat.le_trans (Nat.le_trans Z0 K31.1) (Nat.le_of_eq g32.symm)
      have sz_b32 : h0.size ≤ b32 := Nat.le_trans K31.1 (Nat.le_of_eq g32.symm)
      refine OGo.by st32 ?_
      have K32 : Keep h0 h32 [] := (K31).ext E32
      have V32 : Arv Z h32 b32 k32 .char (1 : Int32) [(.int (0 : Int32))] (.int (0 : Int32)) := (Arv.new A32 (by decide)).pad (pad_rep [] (.int (0 : Int32)) 1)
      show OGo p e below _ (T32.setTop (mkF m 156 #[.val (.int i0), .val (.long i1), .second, .val (.int i2), .val (.int ((i0 &&& (2147483647 : Int32)) % (6 : Int32))), .val (.ref w_TITLE), .val (.long (1 : Int64)), .second, .val (.long (1024 : Int64)), .second, .val (.long ((1 : Int64) + ((i1 &&& (9223372036854775807 : Int64)) - ((i1 &&& (9223372036854775807 : Int64)) / (((1024 : Int64) - (1 : Int64)) + (1 : Int64))) * (((1024 : Int64) - (1 : Int64)) + (1 : Int64))))), .second, .unset] [(.ref b32), (.ref b31), (.ref b31)]))
      refine OGo.by (fun _ k => XS.dup X32.here hx rfl (hb hby at_156) rfl rfl k) ?_
      show OGo p e below _ (T32.setTop (mkF m 157 #[.val (.int i0), .val (.long i1), .second, .val (.int i2), .val (.int ((i0 &&& (2147483647 : Int32)) % (6 : Int32))), .val (.ref w_TITLE), .val (.long (1 : Int64)), .second, .val (.long (1024 : Int64)), .second, .val (.long ((1 : Int64) + ((i1 &&& (9223372036854775807 : Int64)) - ((i1 &&& (9223372036854775807 : Int64)) / (((1024 : Int64) - (1 : Int64)) + (1 : Int64))) * (((1024 : Int64) - (1 : Int64)) + (1 : Int64))))), .second, .unset] [(.ref b32), (.ref b32), (.ref b31), (.ref b31)]))
      refine OGo.by (fun _ k => XS.iconst X32.here hx rfl (hb hby at_157) k) ?_
      show OGo p e below _ (T32.setTop (mkF m 158 #[.val (.int i0), .val (.long i1), .second, .val (.int i2), .val (.int ((i0 &&& (2147483647 : Int32)) % (6 : Int32))), .val (.ref w_TITLE), .val (.long (1 : Int64)), .second, .val (.long (1024 : Int64)), .second, .val (.long ((1 : Int64) + ((i1 &&& (9223372036854775807 : Int64)) - ((i1 &&& (9223372036854775807 : Int64)) / (((1024 : Int64) - (1 : Int64)) + (1 : Int64))) * (((1024 : Int64) - (1 : Int64)) + (1 : Int64))))), .second, .unset] [(.int (0 : Int32)), (.ref b32), (.ref b32), (.ref b31), (.ref b31)]))
      refine OGo.by (fun _ k => XS.iloadN X32.here hx rfl (hb hby at_158) rfl k) ?_
      show OGo p e below _ (T32.setTop (mkF m 159 #[.val (.int i0), .val (.long i1), .second, .val (.int i2), .val (.int ((i0 &&& (2147483647 : Int32)) % (6 : Int32))), .val (.ref w_TITLE), .val (.long (1 : Int64)), .second, .val (.long (1024 : Int64)), .second, .val (.long ((1 : Int64) + ((i1 &&& (9223372036854775807 : Int64)) - ((i1 &&& (9223372036854775807 : Int64)) / (((1024 : Int64) - (1 : Int64)) + (1 : Int64))) * (((1024 : Int64) - (1 : Int64)) + (1 : Int64))))), .second, .unset] [(.int i2), (.int (0 : Int32)), (.ref b32), (.ref b32), (.ref b31), (.ref b31)]))
      refine OGo.by (fun _ k => XS.sipush X32.here hx rfl (hb hby at_159) k) ?_
      show OGo p e below _ (T32.setTop (mkF m 162 #[.val (.int i0), .val (.long i1), .second, .val (.int i2), .val (.int ((i0 &&& (2147483647 : Int32)) % (6 : Int32))), .val (.ref w_TITLE), .val (.long (1 : Int64)), .second, .val (.long (1024 : Int64)), .second, .val (.long ((1 : Int64) + ((i1 &&& (9223372036854775807 : Int64)) - ((i1 &&& (9223372036854775807 : Int64)) / (((1024 : Int64) - (1 : Int64)) + (1 : Int64))) * (((1024 : Int64) - (1 : Int64)) + (1 : Int64))))), .second, .unset] [(.int (255 : Int32)), (.int i2), (.int (0 : Int32)), (.ref b32), (.ref b32), (.ref b31), (.ref b31)]))
      refine OGo.by (fun _ k => XS.iand X32.here hx rfl (hb hby at_162) rfl k) ?_
      show OGo p e below _ (T32.setTop (mkF m 163 #[.val (.int i0), .val (.long i1), .second, .val (.int i2), .val (.int ((i0 &&& (2147483647 : Int32)) % (6 : Int32))), .val (.ref w_TITLE), .val (.long (1 : Int64)), .second, .val (.long (1024 : Int64)), .second, .val (.long ((1 : Int64) + ((i1 &&& (9223372036854775807 : Int64)) - ((i1 &&& (9223372036854775807 : Int64)) / (((1024 : Int64) - (1 : Int64)) + (1 : Int64))) * (((1024 : Int64) - (1 : Int64)) + (1 : Int64))))), .second, .unset] [(.int (i2 &&& (255 : Int32))), (.int (0 : Int32)), (.ref b32), (.ref b32), (.ref b31), (.ref b31)]))
      refine OGo.by (fun _ k => XS.i2c X32.here hx rfl (hb hby at_163) rfl k) ?_
      show OGo p e below _ (T32.setTop (mkF m 164 #[.val (.int i0), .val (.long i1), .second, .val (.int i2), .val (.int ((i0 &&& (2147483647 : Int32)) % (6 : Int32))), .val (.ref w_TITLE), .val (.long (1 : Int64)), .second, .val (.long (1024 : Int64)), .second, .val (.long ((1 : Int64) + ((i1 &&& (9223372036854775807 : Int64)) - ((i1 &&& (9223372036854775807 : Int64)) / (((1024 : Int64) - (1 : Int64)) + (1 : Int64))) * (((1024 : Int64) - (1 : Int64)) + (1 : Int64))))), .second, .unset] [(.int ((i2 &&& (255 : Int32)).toUInt32.toUInt16.toUInt32.toInt32)), (.int (0 : Int32)), (.ref b32), (.ref b32), (.ref b31), (.ref b31)]))
      obtain ⟨cl39, Ar39, q39, S39, M39, Hs39, G39⟩ := id V32
      obtain ⟨T39, h39, X39, e39, W39, st39⟩ := stC X32 hx hZ e32 Ar39 (j := (0 : Int32)) (inb_of S39 ⟨(by decide), (by decide)⟩) (g := (mkF m 164 #[.val (.int i0), .val (.long i1), .second, .val (.int i2), .val (.int ((i0 &&& (2147483647 : Int32)) % (6 : Int32))), .val (.ref w_TITLE), .val (.long (1 : Int64)), .second, .val (.long (1024 : Int64)), .second, .val (.long ((1 : Int64) + ((i1 &&& (9223372036854775807 : Int64)) - ((i1 &&& (9223372036854775807 : Int64)) / (((1024 : Int64) - (1 : Int64)) + (1 : Int64))) * (((1024 : Int64) - (1 : Int64)) + (1 : Int64))))), .second, .unset] [(.int ((i2 &&& (255 : Int32)).toUInt32.toUInt16.toUInt32.toInt32)), (.int (0 : Int32)), (.ref b32), (.ref b32), (.ref b31), (.ref b31)])) rfl rfl (hb hby at_164)
      refine OGo.by st39 ?_
      have N39 := Fr.snoc X39 N0 g_b32
      have K39 : Keep h0 h39 [] := (K32).wr W39 (Or.inr sz_b32)
      have V39 : Arv Z h39 b32 k32 .char (1 : Int32) [(.int (nar .char ((i2 &&& (255 : Int32)).toUInt32.toUInt16.toUInt32.toInt32)))] (.int (0 : Int32)) := Arv.set Ar39 q39 S39 M39 Hs39 G39 (fits_nar_char _) W39 0 rfl (Nat.le_of_ble_eq_true rfl)
      show OGo p e below _ (T39.setTop (mkF m 165 #[.val (.int i0), .val (.long i1), .second, .val (.int i2), .val (.int ((i0 &&& (2147483647 : Int32)) % (6 : Int32))), .val (.ref w_TITLE), .val (.long (1 : Int64)), .second, .val (.long (1024 : Int64)), .second, .val (.long ((1 : Int64) + ((i1 &&& (9223372036854775807 : Int64)) - ((i1 &&& (9223372036854775807 : Int64)) / (((1024 : Int64) - (1 : Int64)) + (1 : Int64))) * (((1024 : Int64) - (1 : Int64)) + (1 : Int64))))), .second, .unset] [(.ref b32), (.ref b31), (.ref b31)]))
      have f41 : Exa Z h39 b31 "java/lang/String" := ((A31.ext E32).wr W39)
      have f42 : Fld Z h39 b31 "java/lang/String" "value" "[B" .null := ((F31_value.ext E32).other W39 (Or.inl ne_b31_b32))
      have f43 : Fld Z h39 b31 "java/lang/String" "coder" "B" (.int (0 : Int32)) := ((F31_coder.ext E32).other W39 (Or.inl ne_b31_b32))
      have f44 : Old Z n0 h39 := (((O0.ext E31).ext E32).wr W39 g_b32)
      have hp40 : ∀ c ∈ ([(nar .char ((i2 &&& (255 : Int32)).toUInt32.toUInt16.toUInt32.toInt32))] : List Int32), ¬ c < 0 ∧ ¬ (255 : Int32) < c := by
        intro c hc; simp only [List.mem_cons, List.not_mem_nil, or_false] at hc
        subst hc; exact and255_chars i2
      have hws40 : ∀ d ∈ StrChars.Road.words, d.before av0 Z = true := fun d hd => hw d ((by decide +kernel : ∀ d ∈ StrChars.Road.words, d ∈ tables_1) d hd)
      obtain ⟨_, _, ⟨T40, L40, k40, n40⟩, -, X40, ⟨Lc40, hQ40, l40, y40, z40⟩, st40⟩ := X39.specialBack hx (y := (⟨"java/lang/String", "<init>", "([C)V"⟩ : MethodName)) rfl hown (mvT hZ (hw _ (List.mem_of_getElem? (i := 10) rfl))) (mvT hZ (hw _ (List.mem_of_getElem? (i := 11) rfl))) (mvT hZ (hw _ (List.mem_of_getElem? (i := 12) rfl))) (by decide) (StrChars.Road.backV (W := 1) hZ hws40 (kI := 4) (hw _ (List.mem_of_getElem? (i := 7) rfl)) (cs := ([(nar .char ((i2 &&& (255 : Int32)).toUInt32.toUInt16.toUInt32.toInt32))] : List Int32)) (bs := ([(nar .char ((i2 &&& (255 : Int32)).toUInt32.toUInt16.toUInt32.toInt32))] : List Int32).map (fun c => c.toInt8.toInt32)) (n := 1) g_b31 (Nat.le_trans Z0 K39.1) f41 f42 f43 V39 (S1.ext f44.2) hcz rfl rfl (by decide) (by decide) hp40 rfl (by decide) (by decide)) (g := (mkF m 165 #[.val (.int i0), .val (.long i1), .second, .val (.int i2), .val (.int ((i0 &&& (2147483647 : Int32)) % (6 : Int32))), .val (.ref w_TITLE), .val (.long (1 : Int64)), .second, .val (.long (1024 : Int64)), .second, .val (.long ((1 : Int64) + ((i1 &&& (9223372036854775807 : Int64)) - ((i1 &&& (9223372036854775807 : Int64)) / (((1024 : Int64) - (1 : Int64)) + (1 : Int64))) * (((1024 : Int64) - (1 : Int64)) + (1 : Int64))))), .second, .unset] [(.ref b32), (.ref b31), (.ref b31)])) rfl (by rw [hml]; rfl) (Steps.refl _) (a := b31) (argsL := [(.ref b32)]) (rest := [(.ref b31)]) (lenOf own_pd0 rfl) rfl (by show 2 * 0 + _ ≤ _; exact Nat.le_of_eq rfl) (hb hby at_165) (fun _ _ => ⟨rfl, e39, (by decide : 2 + 1 ≤ _), (by decide : 5 + 1 ≤ _)⟩)
      dsimp only [Pt.U, Pt.locs, Pt.cells, Pt.slots] at X40 l40 y40 z40 st40 hQ40
      subst l40 y40 z40
      obtain ⟨rfl, N40q, Kc40, GE40, GC40, t40, kb40, gt40, ge40, ne_t40_b31, GV40, GA40⟩ := hQ40
      have N40 := Fr.app N39 N40q
      have f45 : Exa Z h39 w_NAME "com/example/kept_inbox/keptinbox/Limit" := ((f33.ext E32).wr W39)
      have ne_w_NAME_t40 : w_NAME ≠ t40 := Nat.ne_of_lt (Nat.lt_of_lt_of_le f45.lt ge40)
      have f46 : Exa Z h39 w_TITLE "com/example/kept_inbox/keptinbox/Limit" := ((f34.ext E32).wr W39)
      have ne_w_TITLE_t40 : w_TITLE ≠ t40 := Nat.ne_of_lt (Nat.lt_of_lt_of_le f46.lt ge40)
      have f47 : Exa Z h39 w_BODY "com/example/kept_inbox/keptinbox/Limit" := ((f35.ext E32).wr W39)
      have ne_w_BODY_t40 : w_BODY ≠ t40 := Nat.ne_of_lt (Nat.lt_of_lt_of_le f47.lt ge40)
      have f48 : Exa Z h39 w_RECIPIENTS "com/example/kept_inbox/keptinbox/Limit" := ((f36.ext E32).wr W39)
      have ne_w_RECIPIENTS_t40 : w_RECIPIENTS ≠ t40 := Nat.ne_of_lt (Nat.lt_of_lt_of_le f48.lt ge40)
      have f49 : Exa Z h39 w_MEMBERS "com/example/kept_inbox/keptinbox/Limit" := ((f37.ext E32).wr W39)
      have ne_w_MEMBERS_t40 : w_MEMBERS ≠ t40 := Nat.ne_of_lt (Nat.lt_of_lt_of_le f49.lt ge40)
      have f50 : Exa Z h39 w_SUBSCRIBER_IDS "com/example/kept_inbox/keptinbox/Limit" := ((f38.ext E32).wr W39)
      have ne_w_SUBSCRIBER_IDS_t40 : w_SUBSCRIBER_IDS ≠ t40 := Nat.ne_of_lt (Nat.lt_of_lt_of_le f50.lt ge40)
      have ne_b31_t40 : b31 ≠ t40 := Nat.ne_of_lt (Nat.lt_of_lt_of_le f41.lt ge40)
      have ne_b32_t40 : b32 ≠ t40 := Nat.ne_of_lt (Nat.lt_of_lt_of_le V39.lt ge40)
      have g_t40 : n0 ≤ t40 := Nat.le_trans (Nat.le_trans Z0 K39.1) ge40
      have sz_t40 : h0.size ≤ t40 := Nat.le_trans K39.1 ge40
      have K40 : Keep h0 T40.heap [] := (K39).trans Kc40 (fun x hx => by simp only [List.mem_cons, List.not_mem_nil, or_false] at hx; subst hx; exact Or.inr sz_b31)
      refine OGo.of st40 ?_
      show OGo p e below _ (T40.setTop (mkF m 168 #[.val (.int i0), .val (.long i1), .second, .val (.int i2), .val (.int ((i0 &&& (2147483647 : Int32)) % (6 : Int32))), .val (.ref w_TITLE), .val (.long (1 : Int64)), .second, .val (.long (1024 : Int64)), .second, .val (.long ((1 : Int64) + ((i1 &&& (9223372036854775807 : Int64)) - ((i1 &&& (9223372036854775807 : Int64)) / (((1024 : Int64) - (1 : Int64)) + (1 : Int64))) * (((1024 : Int64) - (1 : Int64)) + (1 : Int64))))), .second, .unset] [(.ref b31)]))
      refine OGo.by (fun _ k => XS.astore X40.here hx rfl (hb hby at_168) rfl rfl (l' := #[.val (.int i0), .val (.long i1), .second, .val (.int i2), .val (.int ((i0 &&& (2147483647 : Int32)) % (6 : Int32))), .val (.ref w_TITLE), .val (.long (1 : Int64)), .second, .val (.long (1024 : Int64)), .second, .val (.long ((1 : Int64) + ((i1 &&& (9223372036854775807 : Int64)) - ((i1 &&& (9223372036854775807 : Int64)) / (((1024 : Int64) - (1 : Int64)) + (1 : Int64))) * (((1024 : Int64) - (1 : Int64)) + (1 : Int64))))), .second, .val (.ref b31)]) rfl k) ?_
      show OGo p e below _ (T40.setTop (mkF m 170 #[.val (.int i0), .val (.long i1), .second, .val (.int i2), .val (.int ((i0 &&& (2147483647 : Int32)) % (6 : Int32))), .val (.ref w_TITLE), .val (.long (1 : Int64)), .second, .val (.long (1024 : Int64)), .second, .val (.long ((1 : Int64) + ((i1 &&& (9223372036854775807 : Int64)) - ((i1 &&& (9223372036854775807 : Int64)) / (((1024 : Int64) - (1 : Int64)) + (1 : Int64))) * (((1024 : Int64) - (1 : Int64)) + (1 : Int64))))), .second, .val (.ref b31)] []))
      refine OGo.by (fun _ k => XS.aload X40.here hx rfl (hb hby at_170) rfl rfl k) ?_
      show OGo p e below _ (T40.setTop (mkF m 172 #[.val (.int i0), .val (.long i1), .second, .val (.int i2), .val (.int ((i0 &&& (2147483647 : Int32)) % (6 : Int32))), .val (.ref w_TITLE), .val (.long (1 : Int64)), .second, .val (.long (1024 : Int64)), .second, .val (.long ((1 : Int64) + ((i1 &&& (9223372036854775807 : Int64)) - ((i1 &&& (9223372036854775807 : Int64)) / (((1024 : Int64) - (1 : Int64)) + (1 : Int64))) * (((1024 : Int64) - (1 : Int64)) + (1 : Int64))))), .second, .val (.ref b31)] [(.ref w_TITLE)]))
      refine OGo.by (fun _ k => XS.aload X40.here hx rfl (hb hby at_172) rfl rfl k) ?_
      show OGo p e below _ (T40.setTop (mkF m 174 #[.val (.int i0), .val (.long i1), .second, .val (.int i2), .val (.int ((i0 &&& (2147483647 : Int32)) % (6 : Int32))), .val (.ref w_TITLE), .val (.long (1 : Int64)), .second, .val (.long (1024 : Int64)), .second, .val (.long ((1 : Int64) + ((i1 &&& (9223372036854775807 : Int64)) - ((i1 &&& (9223372036854775807 : Int64)) / (((1024 : Int64) - (1 : Int64)) + (1 : Int64))) * (((1024 : Int64) - (1 : Int64)) + (1 : Int64))))), .second, .val (.ref b31)] [(.ref b31), (.ref w_TITLE)]))
      refine OGo.by (fun _ k => XS.lload X40.here hx rfl (hb hby at_174) rfl k) ?_
      show OGo p e below _ (T40.setTop (mkF m 176 #[.val (.int i0), .val (.long i1), .second, .val (.int i2), .val (.int ((i0 &&& (2147483647 : Int32)) % (6 : Int32))), .val (.ref w_TITLE), .val (.long (1 : Int64)), .second, .val (.long (1024 : Int64)), .second, .val (.long ((1 : Int64) + ((i1 &&& (9223372036854775807 : Int64)) - ((i1 &&& (9223372036854775807 : Int64)) / (((1024 : Int64) - (1 : Int64)) + (1 : Int64))) * (((1024 : Int64) - (1 : Int64)) + (1 : Int64))))), .second, .val (.ref b31)] [(.long ((1 : Int64) + ((i1 &&& (9223372036854775807 : Int64)) - ((i1 &&& (9223372036854775807 : Int64)) / (((1024 : Int64) - (1 : Int64)) + (1 : Int64))) * (((1024 : Int64) - (1 : Int64)) + (1 : Int64))))), (.ref b31), (.ref w_TITLE)]))
      have f52 : Fld Z T40.heap w_TITLE "com/example/kept_inbox/keptinbox/Limit" "min" "I" (.int (1 : Int32)) := ((((F_TITLE_min.ext E31).ext E32).other W39 (Or.inl ne_w_TITLE_b32)).keep Kc40 (ninS ne_w_TITLE_b31 nin0))
      have f53 : Fld Z T40.heap w_TITLE "com/example/kept_inbox/keptinbox/Limit" "max" "I" (.int (1024 : Int32)) := ((((F_TITLE_max.ext E31).ext E32).other W39 (Or.inl ne_w_TITLE_b32)).keep Kc40 (ninS ne_w_TITLE_b31 nin0))
      have f54 : Exa Z T40.heap w_TITLE "com/example/kept_inbox/keptinbox/Limit" := (f46.keep Kc40)
      obtain ⟨cq51, kq51, q51a, q51b, q51c⟩ := isOf hZ rfl f54
      obtain ⟨_, _, ⟨T51, L51, k51, n51⟩, -, X51, ⟨Lc51, hQ51, l51, y51, z51⟩, st51⟩ := X40.virtualBack hx (y := (⟨"com/example/kept_inbox/keptinbox/Limit", "check", "(Ljava/lang/String;J)V"⟩ : MethodName)) (z := (⟨"com/example/kept_inbox/keptinbox/Limit", "check", "(Ljava/lang/String;J)V"⟩ : MethodName)) hown (mvT hZ (hw _ (List.mem_of_getElem? (i := 36) rfl))) (mvT hZ (hw _ (List.mem_of_getElem? (i := 37) rfl))) (notFace_of_selects (args := #[]) (mvT hZ (hw _ (List.mem_of_getElem? (i := 39) rfl)))) (mvT hZ (hw _ (List.mem_of_getElem? (i := 39) rfl))) (mvT hZ (hw _ (List.mem_of_getElem? (i := 38) rfl))) (by decide) (backOf (W := 0) (rm7 l Z av0 hw [] w_TITLE b31 ((1 : Int64) + ((i1 &&& (9223372036854775807 : Int64)) - ((i1 &&& (9223372036854775807 : Int64)) / (((1024 : Int64) - (1 : Int64)) + (1 : Int64))) * (((1024 : Int64) - (1 : Int64)) + (1 : Int64)))) (1 : Int32) (1024 : Int32) T40.heap n0 (Nat.le_trans Z0 K40.1) f52 f53 (own_nlt (own_rng (hi := (1024 : Int64)) 1 1024 (by decide) (by decide) (by decide) (by decide) (by decide) (own_nn i1)).1 (by decide)) (own_ngt (own_rng (hi := (1024 : Int64)) 1 1024 (by decide) (by decide) (by decide) (by decide) (by decide) (own_nn i1)).2 (by decide))) hZ (hw _ (List.mem_of_getElem? (i := 40) rfl)) (hw _ (List.mem_of_getElem? (i := 2) rfl)) (by decide) (by decide)) q51a q51c (g := (mkF m 176 #[.val (.int i0), .val (.long i1), .second, .val (.int i2), .val (.int ((i0 &&& (2147483647 : Int32)) % (6 : Int32))), .val (.ref w_TITLE), .val (.long (1 : Int64)), .second, .val (.long (1024 : Int64)), .second, .val (.long ((1 : Int64) + ((i1 &&& (9223372036854775807 : Int64)) - ((i1 &&& (9223372036854775807 : Int64)) / (((1024 : Int64) - (1 : Int64)) + (1 : Int64))) * (((1024 : Int64) - (1 : Int64)) + (1 : Int64))))), .second, .val (.ref b31)] [(.long ((1 : Int64) + ((i1 &&& (9223372036854775807 : Int64)) - ((i1 &&& (9223372036854775807 : Int64)) / (((1024 : Int64) - (1 : Int64)) + (1 : Int64))) * (((1024 : Int64) - (1 : Int64)) + (1 : Int64))))), (.ref b31), (.ref w_TITLE)])) rfl (by rw [hml]; rfl) (Steps.refl _) (argsL := [(.ref b31), (.long ((1 : Int64) + ((i1 &&& (9223372036854775807 : Int64)) - ((i1 &&& (9223372036854775807 : Int64)) / (((1024 : Int64) - (1 : Int64)) + (1 : Int64))) * (((1024 : Int64) - (1 : Int64)) + (1 : Int64)))))]) (rest := []) (lenOf own_pd1 rfl) rfl (by show 2 * 0 + _ ≤ _; exact Nat.le_of_eq rfl) (hb hby at_176) (fun _ _ => ⟨rfl, rfl, (by decide : 3 + 0 ≤ _), (by decide : 6 + 0 ≤ _)⟩)
      dsimp only [Pt.U, Pt.locs, Pt.cells, Pt.slots] at X51 l51 y51 z51 st51 hQ51
      subst l51 y51 z51
      obtain ⟨rfl, N51q, e51⟩ := hQ51
      have N51 := Fr.app N40 N51q
      refine OGo.of st51 ?_
      show OGo p e below _ (T51.setTop (mkF m 179 #[.val (.int i0), .val (.long i1), .second, .val (.int i2), .val (.int ((i0 &&& (2147483647 : Int32)) % (6 : Int32))), .val (.ref w_TITLE), .val (.long (1 : Int64)), .second, .val (.long (1024 : Int64)), .second, .val (.long ((1 : Int64) + ((i1 &&& (9223372036854775807 : Int64)) - ((i1 &&& (9223372036854775807 : Int64)) / (((1024 : Int64) - (1 : Int64)) + (1 : Int64))) * (((1024 : Int64) - (1 : Int64)) + (1 : Int64))))), .second, .val (.ref b31)] []))
      refine OGo.by (fun _ k => XS.aload X51.here hx rfl (hb hby at_179) rfl rfl k) ?_
      show OGo p e below _ (T51.setTop (mkF m 181 #[.val (.int i0), .val (.long i1), .second, .val (.int i2), .val (.int ((i0 &&& (2147483647 : Int32)) % (6 : Int32))), .val (.ref w_TITLE), .val (.long (1 : Int64)), .second, .val (.long (1024 : Int64)), .second, .val (.long ((1 : Int64) + ((i1 &&& (9223372036854775807 : Int64)) - ((i1 &&& (9223372036854775807 : Int64)) / (((1024 : Int64) - (1 : Int64)) + (1 : Int64))) * (((1024 : Int64) - (1 : Int64)) + (1 : Int64))))), .second, .val (.ref b31)] [(.ref w_TITLE)]))
      obtain ⟨cq55, kq55, q55a, q55b, q55c⟩ := isOf hZ e51 f54
      obtain ⟨_, _, ⟨T55, L55, k55, n55⟩, -, X55, ⟨Lc55, hQ55, l55, y55, z55⟩, st55⟩ := X51.virtualBack hx (y := (⟨"com/example/kept_inbox/keptinbox/Limit", "min", "()I"⟩ : MethodName)) (z := (⟨"com/example/kept_inbox/keptinbox/Limit", "min", "()I"⟩ : MethodName)) hown (mvT hZ (hw _ (List.mem_of_getElem? (i := 45) rfl))) (mvT hZ (hw _ (List.mem_of_getElem? (i := 46) rfl))) (notFace_of_selects (args := #[]) (mvT hZ (hw _ (List.mem_of_getElem? (i := 48) rfl)))) (mvT hZ (hw _ (List.mem_of_getElem? (i := 48) rfl))) (mvT hZ (hw _ (List.mem_of_getElem? (i := 47) rfl))) (by decide) (backOf (W := 0) (rm8 l Z av0 hw [] w_TITLE (1 : Int32) T40.heap n0 (Nat.le_trans Z0 K40.1) f52) hZ (hw _ (List.mem_of_getElem? (i := 49) rfl)) (hw _ (List.mem_of_getElem? (i := 2) rfl)) (by decide) (by decide)) q55a q55c (g := (mkF m 181 #[.val (.int i0), .val (.long i1), .second, .val (.int i2), .val (.int ((i0 &&& (2147483647 : Int32)) % (6 : Int32))), .val (.ref w_TITLE), .val (.long (1 : Int64)), .second, .val (.long (1024 : Int64)), .second, .val (.long ((1 : Int64) + ((i1 &&& (9223372036854775807 : Int64)) - ((i1 &&& (9223372036854775807 : Int64)) / (((1024 : Int64) - (1 : Int64)) + (1 : Int64))) * (((1024 : Int64) - (1 : Int64)) + (1 : Int64))))), .second, .val (.ref b31)] [(.ref w_TITLE)])) rfl (by rw [hml]; rfl) (Steps.refl _) (argsL := []) (rest := []) (lenOf own_pd2 rfl) rfl (by show 2 * 0 + _ ≤ _; exact Nat.le_of_eq rfl) (hb hby at_181) (fun _ _ => ⟨rfl, e51, (by decide : 3 + 0 ≤ _), (by decide : 6 + 0 ≤ _)⟩)
      dsimp only [Pt.U, Pt.locs, Pt.cells, Pt.slots] at X55 l55 y55 z55 st55 hQ55
      subst l55 y55 z55
      obtain ⟨rfl, N55q, e55⟩ := hQ55
      have N55 := Fr.app N51 N55q
      refine OGo.of st55 ?_
      show OGo p e below _ (T55.setTop (mkF m 184 #[.val (.int i0), .val (.long i1), .second, .val (.int i2), .val (.int ((i0 &&& (2147483647 : Int32)) % (6 : Int32))), .val (.ref w_TITLE), .val (.long (1 : Int64)), .second, .val (.long (1024 : Int64)), .second, .val (.long ((1 : Int64) + ((i1 &&& (9223372036854775807 : Int64)) - ((i1 &&& (9223372036854775807 : Int64)) / (((1024 : Int64) - (1 : Int64)) + (1 : Int64))) * (((1024 : Int64) - (1 : Int64)) + (1 : Int64))))), .second, .val (.ref b31)] [(.int (1 : Int32))]))
      refine OGo.by (fun _ k => XS.i2l X55.here hx rfl (hb hby at_184) rfl k) ?_
      show OGo p e below _ (T55.setTop (mkF m 185 #[.val (.int i0), .val (.long i1), .second, .val (.int i2), .val (.int ((i0 &&& (2147483647 : Int32)) % (6 : Int32))), .val (.ref w_TITLE), .val (.long (1 : Int64)), .second, .val (.long (1024 : Int64)), .second, .val (.long ((1 : Int64) + ((i1 &&& (9223372036854775807 : Int64)) - ((i1 &&& (9223372036854775807 : Int64)) / (((1024 : Int64) - (1 : Int64)) + (1 : Int64))) * (((1024 : Int64) - (1 : Int64)) + (1 : Int64))))), .second, .val (.ref b31)] [(.long ((1 : Int32).toInt64))]))
      refine OGo.by (fun _ k => XS.lload X55.here hx rfl (hb hby at_185) rfl k) ?_
      show OGo p e below _ (T55.setTop (mkF m 187 #[.val (.int i0), .val (.long i1), .second, .val (.int i2), .val (.int ((i0 &&& (2147483647 : Int32)) % (6 : Int32))), .val (.ref w_TITLE), .val (.long (1 : Int64)), .second, .val (.long (1024 : Int64)), .second, .val (.long ((1 : Int64) + ((i1 &&& (9223372036854775807 : Int64)) - ((i1 &&& (9223372036854775807 : Int64)) / (((1024 : Int64) - (1 : Int64)) + (1 : Int64))) * (((1024 : Int64) - (1 : Int64)) + (1 : Int64))))), .second, .val (.ref b31)] [(.long (1 : Int64)), (.long ((1 : Int32).toInt64))]))
      refine OGo.by (fun _ k => XS.lcmp X55.here hx rfl (hb hby at_187) rfl k) ?_
      show OGo p e below _ (T55.setTop (mkF m 188 #[.val (.int i0), .val (.long i1), .second, .val (.int i2), .val (.int ((i0 &&& (2147483647 : Int32)) % (6 : Int32))), .val (.ref w_TITLE), .val (.long (1 : Int64)), .second, .val (.long (1024 : Int64)), .second, .val (.long ((1 : Int64) + ((i1 &&& (9223372036854775807 : Int64)) - ((i1 &&& (9223372036854775807 : Int64)) / (((1024 : Int64) - (1 : Int64)) + (1 : Int64))) * (((1024 : Int64) - (1 : Int64)) + (1 : Int64))))), .second, .val (.ref b31)] [(.int (lcmpW ((1 : Int32).toInt64) (1 : Int64)))]))
      refine OGo.by (fun _ k => XS.ifNo X55.here hx rfl (hb hby at_188) rfl ((if0 _ _).trans (teq ((lw_eq _ _).mpr (by decide : ((1 : Int32).toInt64) = (1 : Int64)))).2) k) ?_
      show OGo p e below _ (T55.setTop (mkF m 191 #[.val (.int i0), .val (.long i1), .second, .val (.int i2), .val (.int ((i0 &&& (2147483647 : Int32)) % (6 : Int32))), .val (.ref w_TITLE), .val (.long (1 : Int64)), .second, .val (.long (1024 : Int64)), .second, .val (.long ((1 : Int64) + ((i1 &&& (9223372036854775807 : Int64)) - ((i1 &&& (9223372036854775807 : Int64)) / (((1024 : Int64) - (1 : Int64)) + (1 : Int64))) * (((1024 : Int64) - (1 : Int64)) + (1 : Int64))))), .second, .val (.ref b31)] []))
      refine OGo.by (fun _ k => XS.aload X55.here hx rfl (hb hby at_191) rfl rfl k) ?_
      show OGo p e below _ (T55.setTop (mkF m 193 #[.val (.int i0), .val (.long i1), .second, .val (.int i2), .val (.int ((i0 &&& (2147483647 : Int32)) % (6 : Int32))), .val (.ref w_TITLE), .val (.long (1 : Int64)), .second, .val (.long (1024 : Int64)), .second, .val (.long ((1 : Int64) + ((i1 &&& (9223372036854775807 : Int64)) - ((i1 &&& (9223372036854775807 : Int64)) / (((1024 : Int64) - (1 : Int64)) + (1 : Int64))) * (((1024 : Int64) - (1 : Int64)) + (1 : Int64))))), .second, .val (.ref b31)] [(.ref w_TITLE)]))
      obtain ⟨cq56, kq56, q56a, q56b, q56c⟩ := isOf hZ e55 f54
      obtain ⟨_, _, ⟨T56, L56, k56, n56⟩, -, X56, ⟨Lc56, hQ56, l56, y56, z56⟩, st56⟩ := X55.virtualBack hx (y := (⟨"com/example/kept_inbox/keptinbox/Limit", "max", "()I"⟩ : MethodName)) (z := (⟨"com/example/kept_inbox/keptinbox/Limit", "max", "()I"⟩ : MethodName)) hown (mvT hZ (hw _ (List.mem_of_getElem? (i := 50) rfl))) (mvT hZ (hw _ (List.mem_of_getElem? (i := 51) rfl))) (notFace_of_selects (args := #[]) (mvT hZ (hw _ (List.mem_of_getElem? (i := 53) rfl)))) (mvT hZ (hw _ (List.mem_of_getElem? (i := 53) rfl))) (mvT hZ (hw _ (List.mem_of_getElem? (i := 52) rfl))) (by decide) (backOf (W := 0) (rm9 l Z av0 hw [] w_TITLE (1024 : Int32) T40.heap n0 (Nat.le_trans Z0 K40.1) f53) hZ (hw _ (List.mem_of_getElem? (i := 54) rfl)) (hw _ (List.mem_of_getElem? (i := 2) rfl)) (by decide) (by decide)) q56a q56c (g := (mkF m 193 #[.val (.int i0), .val (.long i1), .second, .val (.int i2), .val (.int ((i0 &&& (2147483647 : Int32)) % (6 : Int32))), .val (.ref w_TITLE), .val (.long (1 : Int64)), .second, .val (.long (1024 : Int64)), .second, .val (.long ((1 : Int64) + ((i1 &&& (9223372036854775807 : Int64)) - ((i1 &&& (9223372036854775807 : Int64)) / (((1024 : Int64) - (1 : Int64)) + (1 : Int64))) * (((1024 : Int64) - (1 : Int64)) + (1 : Int64))))), .second, .val (.ref b31)] [(.ref w_TITLE)])) rfl (by rw [hml]; rfl) (Steps.refl _) (argsL := []) (rest := []) (lenOf own_pd2 rfl) rfl (by show 2 * 0 + _ ≤ _; exact Nat.le_of_eq rfl) (hb hby at_193) (fun _ _ => ⟨rfl, e55, (by decide : 3 + 0 ≤ _), (by decide : 6 + 0 ≤ _)⟩)
      dsimp only [Pt.U, Pt.locs, Pt.cells, Pt.slots] at X56 l56 y56 z56 st56 hQ56
      subst l56 y56 z56
      obtain ⟨rfl, N56q, e56⟩ := hQ56
      have N56 := Fr.app N55 N56q
      refine OGo.of st56 ?_
      show OGo p e below _ (T56.setTop (mkF m 196 #[.val (.int i0), .val (.long i1), .second, .val (.int i2), .val (.int ((i0 &&& (2147483647 : Int32)) % (6 : Int32))), .val (.ref w_TITLE), .val (.long (1 : Int64)), .second, .val (.long (1024 : Int64)), .second, .val (.long ((1 : Int64) + ((i1 &&& (9223372036854775807 : Int64)) - ((i1 &&& (9223372036854775807 : Int64)) / (((1024 : Int64) - (1 : Int64)) + (1 : Int64))) * (((1024 : Int64) - (1 : Int64)) + (1 : Int64))))), .second, .val (.ref b31)] [(.int (1024 : Int32))]))
      refine OGo.by (fun _ k => XS.i2l X56.here hx rfl (hb hby at_196) rfl k) ?_
      show OGo p e below _ (T56.setTop (mkF m 197 #[.val (.int i0), .val (.long i1), .second, .val (.int i2), .val (.int ((i0 &&& (2147483647 : Int32)) % (6 : Int32))), .val (.ref w_TITLE), .val (.long (1 : Int64)), .second, .val (.long (1024 : Int64)), .second, .val (.long ((1 : Int64) + ((i1 &&& (9223372036854775807 : Int64)) - ((i1 &&& (9223372036854775807 : Int64)) / (((1024 : Int64) - (1 : Int64)) + (1 : Int64))) * (((1024 : Int64) - (1 : Int64)) + (1 : Int64))))), .second, .val (.ref b31)] [(.long ((1024 : Int32).toInt64))]))
      refine OGo.by (fun _ k => XS.lload X56.here hx rfl (hb hby at_197) rfl k) ?_
      show OGo p e below _ (T56.setTop (mkF m 199 #[.val (.int i0), .val (.long i1), .second, .val (.int i2), .val (.int ((i0 &&& (2147483647 : Int32)) % (6 : Int32))), .val (.ref w_TITLE), .val (.long (1 : Int64)), .second, .val (.long (1024 : Int64)), .second, .val (.long ((1 : Int64) + ((i1 &&& (9223372036854775807 : Int64)) - ((i1 &&& (9223372036854775807 : Int64)) / (((1024 : Int64) - (1 : Int64)) + (1 : Int64))) * (((1024 : Int64) - (1 : Int64)) + (1 : Int64))))), .second, .val (.ref b31)] [(.long (1024 : Int64)), (.long ((1024 : Int32).toInt64))]))
      refine OGo.by (fun _ k => XS.lcmp X56.here hx rfl (hb hby at_199) rfl k) ?_
      show OGo p e below _ (T56.setTop (mkF m 200 #[.val (.int i0), .val (.long i1), .second, .val (.int i2), .val (.int ((i0 &&& (2147483647 : Int32)) % (6 : Int32))), .val (.ref w_TITLE), .val (.long (1 : Int64)), .second, .val (.long (1024 : Int64)), .second, .val (.long ((1 : Int64) + ((i1 &&& (9223372036854775807 : Int64)) - ((i1 &&& (9223372036854775807 : Int64)) / (((1024 : Int64) - (1 : Int64)) + (1 : Int64))) * (((1024 : Int64) - (1 : Int64)) + (1 : Int64))))), .second, .val (.ref b31)] [(.int (lcmpW ((1024 : Int32).toInt64) (1024 : Int64)))]))
      refine OGo.by (fun _ k => XS.ifNo X56.here hx rfl (hb hby at_200) rfl ((if0 _ _).trans (teq ((lw_eq _ _).mpr (by decide : ((1024 : Int32).toInt64) = (1024 : Int64)))).2) k) ?_
      show OGo p e below _ (T56.setTop (mkF m 203 #[.val (.int i0), .val (.long i1), .second, .val (.int i2), .val (.int ((i0 &&& (2147483647 : Int32)) % (6 : Int32))), .val (.ref w_TITLE), .val (.long (1 : Int64)), .second, .val (.long (1024 : Int64)), .second, .val (.long ((1 : Int64) + ((i1 &&& (9223372036854775807 : Int64)) - ((i1 &&& (9223372036854775807 : Int64)) / (((1024 : Int64) - (1 : Int64)) + (1 : Int64))) * (((1024 : Int64) - (1 : Int64)) + (1 : Int64))))), .second, .val (.ref b31)] []))
      refine OGo.by (fun _ k => XS.lload X56.here hx rfl (hb hby at_203) rfl k) ?_
      show OGo p e below _ (T56.setTop (mkF m 205 #[.val (.int i0), .val (.long i1), .second, .val (.int i2), .val (.int ((i0 &&& (2147483647 : Int32)) % (6 : Int32))), .val (.ref w_TITLE), .val (.long (1 : Int64)), .second, .val (.long (1024 : Int64)), .second, .val (.long ((1 : Int64) + ((i1 &&& (9223372036854775807 : Int64)) - ((i1 &&& (9223372036854775807 : Int64)) / (((1024 : Int64) - (1 : Int64)) + (1 : Int64))) * (((1024 : Int64) - (1 : Int64)) + (1 : Int64))))), .second, .val (.ref b31)] [(.long ((1 : Int64) + ((i1 &&& (9223372036854775807 : Int64)) - ((i1 &&& (9223372036854775807 : Int64)) / (((1024 : Int64) - (1 : Int64)) + (1 : Int64))) * (((1024 : Int64) - (1 : Int64)) + (1 : Int64)))))]))
      refine OGo.by (fun _ k => XS.lload X56.here hx rfl (hb hby at_205) rfl k) ?_
      show OGo p e below _ (T56.setTop (mkF m 207 #[.val (.int i0), .val (.long i1), .second, .val (.int i2), .val (.int ((i0 &&& (2147483647 : Int32)) % (6 : Int32))), .val (.ref w_TITLE), .val (.long (1 : Int64)), .second, .val (.long (1024 : Int64)), .second, .val (.long ((1 : Int64) + ((i1 &&& (9223372036854775807 : Int64)) - ((i1 &&& (9223372036854775807 : Int64)) / (((1024 : Int64) - (1 : Int64)) + (1 : Int64))) * (((1024 : Int64) - (1 : Int64)) + (1 : Int64))))), .second, .val (.ref b31)] [(.long (1 : Int64)), (.long ((1 : Int64) + ((i1 &&& (9223372036854775807 : Int64)) - ((i1 &&& (9223372036854775807 : Int64)) / (((1024 : Int64) - (1 : Int64)) + (1 : Int64))) * (((1024 : Int64) - (1 : Int64)) + (1 : Int64)))))]))
      refine OGo.by (fun _ k => XS.lcmp X56.here hx rfl (hb hby at_207) rfl k) ?_
      show OGo p e below _ (T56.setTop (mkF m 208 #[.val (.int i0), .val (.long i1), .second, .val (.int i2), .val (.int ((i0 &&& (2147483647 : Int32)) % (6 : Int32))), .val (.ref w_TITLE), .val (.long (1 : Int64)), .second, .val (.long (1024 : Int64)), .second, .val (.long ((1 : Int64) + ((i1 &&& (9223372036854775807 : Int64)) - ((i1 &&& (9223372036854775807 : Int64)) / (((1024 : Int64) - (1 : Int64)) + (1 : Int64))) * (((1024 : Int64) - (1 : Int64)) + (1 : Int64))))), .second, .val (.ref b31)] [(.int (lcmpW ((1 : Int64) + ((i1 &&& (9223372036854775807 : Int64)) - ((i1 &&& (9223372036854775807 : Int64)) / (((1024 : Int64) - (1 : Int64)) + (1 : Int64))) * (((1024 : Int64) - (1 : Int64)) + (1 : Int64)))) (1 : Int64)))]))
      refine OGo.by (fun _ k => XS.ifNo X56.here hx rfl (hb hby at_208) rfl ((if0 _ _).trans (flt (mt (lw_lt _ _).mp (own_nlt (own_rng (hi := (1024 : Int64)) 1 1024 (by decide) (by decide) (by decide) (by decide) (by decide) (own_nn i1)).1 (by decide)))).1) k) ?_
      show OGo p e below _ (T56.setTop (mkF m 211 #[.val (.int i0), .val (.long i1), .second, .val (.int i2), .val (.int ((i0 &&& (2147483647 : Int32)) % (6 : Int32))), .val (.ref w_TITLE), .val (.long (1 : Int64)), .second, .val (.long (1024 : Int64)), .second, .val (.long ((1 : Int64) + ((i1 &&& (9223372036854775807 : Int64)) - ((i1 &&& (9223372036854775807 : Int64)) / (((1024 : Int64) - (1 : Int64)) + (1 : Int64))) * (((1024 : Int64) - (1 : Int64)) + (1 : Int64))))), .second, .val (.ref b31)] []))
      refine OGo.by (fun _ k => XS.lload X56.here hx rfl (hb hby at_211) rfl k) ?_
      show OGo p e below _ (T56.setTop (mkF m 213 #[.val (.int i0), .val (.long i1), .second, .val (.int i2), .val (.int ((i0 &&& (2147483647 : Int32)) % (6 : Int32))), .val (.ref w_TITLE), .val (.long (1 : Int64)), .second, .val (.long (1024 : Int64)), .second, .val (.long ((1 : Int64) + ((i1 &&& (9223372036854775807 : Int64)) - ((i1 &&& (9223372036854775807 : Int64)) / (((1024 : Int64) - (1 : Int64)) + (1 : Int64))) * (((1024 : Int64) - (1 : Int64)) + (1 : Int64))))), .second, .val (.ref b31)] [(.long ((1 : Int64) + ((i1 &&& (9223372036854775807 : Int64)) - ((i1 &&& (9223372036854775807 : Int64)) / (((1024 : Int64) - (1 : Int64)) + (1 : Int64))) * (((1024 : Int64) - (1 : Int64)) + (1 : Int64)))))]))
      refine OGo.by (fun _ k => XS.lload X56.here hx rfl (hb hby at_213) rfl k) ?_
      show OGo p e below _ (T56.setTop (mkF m 215 #[.val (.int i0), .val (.long i1), .second, .val (.int i2), .val (.int ((i0 &&& (2147483647 : Int32)) % (6 : Int32))), .val (.ref w_TITLE), .val (.long (1 : Int64)), .second, .val (.long (1024 : Int64)), .second, .val (.long ((1 : Int64) + ((i1 &&& (9223372036854775807 : Int64)) - ((i1 &&& (9223372036854775807 : Int64)) / (((1024 : Int64) - (1 : Int64)) + (1 : Int64))) * (((1024 : Int64) - (1 : Int64)) + (1 : Int64))))), .second, .val (.ref b31)] [(.long (1024 : Int64)), (.long ((1 : Int64) + ((i1 &&& (9223372036854775807 : Int64)) - ((i1 &&& (9223372036854775807 : Int64)) / (((1024 : Int64) - (1 : Int64)) + (1 : Int64))) * (((1024 : Int64) - (1 : Int64)) + (1 : Int64)))))]))
      refine OGo.by (fun _ k => XS.lcmp X56.here hx rfl (hb hby at_215) rfl k) ?_
      show OGo p e below _ (T56.setTop (mkF m 216 #[.val (.int i0), .val (.long i1), .second, .val (.int i2), .val (.int ((i0 &&& (2147483647 : Int32)) % (6 : Int32))), .val (.ref w_TITLE), .val (.long (1 : Int64)), .second, .val (.long (1024 : Int64)), .second, .val (.long ((1 : Int64) + ((i1 &&& (9223372036854775807 : Int64)) - ((i1 &&& (9223372036854775807 : Int64)) / (((1024 : Int64) - (1 : Int64)) + (1 : Int64))) * (((1024 : Int64) - (1 : Int64)) + (1 : Int64))))), .second, .val (.ref b31)] [(.int (lcmpW ((1 : Int64) + ((i1 &&& (9223372036854775807 : Int64)) - ((i1 &&& (9223372036854775807 : Int64)) / (((1024 : Int64) - (1 : Int64)) + (1 : Int64))) * (((1024 : Int64) - (1 : Int64)) + (1 : Int64)))) (1024 : Int64)))]))
      refine OGo.by (fun _ k => XS.ifNo X56.here hx rfl (hb hby at_216) rfl ((if0 _ _).trans (flt (mt (lw_gt _ _).mp (own_ngt (own_rng (hi := (1024 : Int64)) 1 1024 (by decide) (by decide) (by decide) (by decide) (by decide) (own_nn i1)).2 (by decide)))).2.2.1) k) ?_
      show OGo p e below _ (T56.setTop (mkF m 219 #[.val (.int i0), .val (.long i1), .second, .val (.int i2), .val (.int ((i0 &&& (2147483647 : Int32)) % (6 : Int32))), .val (.ref w_TITLE), .val (.long (1 : Int64)), .second, .val (.long (1024 : Int64)), .second, .val (.long ((1 : Int64) + ((i1 &&& (9223372036854775807 : Int64)) - ((i1 &&& (9223372036854775807 : Int64)) / (((1024 : Int64) - (1 : Int64)) + (1 : Int64))) * (((1024 : Int64) - (1 : Int64)) + (1 : Int64))))), .second, .val (.ref b31)] []))
      refine OGo.by (fun _ k => XS.iconst X56.here hx rfl (hb hby at_219) k) ?_
      show OGo p e below _ (T56.setTop (mkF m 220 #[.val (.int i0), .val (.long i1), .second, .val (.int i2), .val (.int ((i0 &&& (2147483647 : Int32)) % (6 : Int32))), .val (.ref w_TITLE), .val (.long (1 : Int64)), .second, .val (.long (1024 : Int64)), .second, .val (.long ((1 : Int64) + ((i1 &&& (9223372036854775807 : Int64)) - ((i1 &&& (9223372036854775807 : Int64)) / (((1024 : Int64) - (1 : Int64)) + (1 : Int64))) * (((1024 : Int64) - (1 : Int64)) + (1 : Int64))))), .second, .val (.ref b31)] [(.int (1 : Int32))]))
      refine OGo.by (fun _ k => XS.goto X56.here hx rfl (pc0 := 220) (pc' := 224) rfl (hb hby at_220) (by decide) (by decide) k) ?_
      show OGo p e below _ (T56.setTop (mkF m 224 #[.val (.int i0), .val (.long i1), .second, .val (.int i2), .val (.int ((i0 &&& (2147483647 : Int32)) % (6 : Int32))), .val (.ref w_TITLE), .val (.long (1 : Int64)), .second, .val (.long (1024 : Int64)), .second, .val (.long ((1 : Int64) + ((i1 &&& (9223372036854775807 : Int64)) - ((i1 &&& (9223372036854775807 : Int64)) / (((1024 : Int64) - (1 : Int64)) + (1 : Int64))) * (((1024 : Int64) - (1 : Int64)) + (1 : Int64))))), .second, .val (.ref b31)] [(.int (1 : Int32))]))
      obtain ⟨fs, hr, hrun, hended, hW, hsame⟩ := X56.leave (v := some (.int (1 : Int32))) (fun h => by rw [Bd.returns] at h; cases h)
      refine OGo.ret (retN X56 hx (t := .boolean) Bd.returns (by simp) (hb hby at_224) hr) hrun hended ⟨_, _, rfl, ?_, ⟨_, rfl⟩, hW, hsame.mono (by decide) (by decide)⟩
      show Q_rm0 Z i0 i1 i2 w_NAME w_TITLE w_BODY w_RECIPIENTS w_MEMBERS w_SUBSCRIBER_IDS cz h0 n0 _ T56.heap _
      rw [e56]
      exact ⟨rfl, N56⟩
    · refine OGo.by (fun _ k => XS.icmpYes X0.here hx rfl (pc0 := 33) (pc' := 52) rfl (hb hby at_33) rfl (feq hc33_29).2 (by decide) (by decide) k) ?_
      show OGo p e below _ (s₁.setTop (mkF m 52 #[.val (.int i0), .val (.long i1), .second, .val (.int i2), .val (.int ((i0 &&& (2147483647 : Int32)) % (6 : Int32))), .unset, .unset, .unset, .unset, .unset, .unset, .unset, .unset] []))
      refine OGo.by (fun _ k => XS.iload X0.here hx rfl (hb hby at_52) rfl k) ?_
      show OGo p e below _ (s₁.setTop (mkF m 54 #[.val (.int i0), .val (.long i1), .second, .val (.int i2), .val (.int ((i0 &&& (2147483647 : Int32)) % (6 : Int32))), .unset, .unset, .unset, .unset, .unset, .unset, .unset, .unset] [(.int ((i0 &&& (2147483647 : Int32)) % (6 : Int32)))]))
      refine OGo.by (fun _ k => XS.iconst X0.here hx rfl (hb hby at_54) k) ?_
      show OGo p e below _ (s₁.setTop (mkF m 55 #[.val (.int i0), .val (.long i1), .second, .val (.int i2), .val (.int ((i0 &&& (2147483647 : Int32)) % (6 : Int32))), .unset, .unset, .unset, .unset, .unset, .unset, .unset, .unset] [(.int (2 : Int32)), (.int ((i0 &&& (2147483647 : Int32)) % (6 : Int32)))]))
      by_cases hc55_57 : ((i0 &&& (2147483647 : Int32)) % (6 : Int32)) = (2 : Int32)
      · refine OGo.by (fun _ k => XS.icmpNo X0.here hx rfl (hb hby at_55) rfl (teq hc55_57).2 k) ?_
        show OGo p e below _ (s₁.setTop (mkF m 58 #[.val (.int i0), .val (.long i1), .second, .val (.int i2), .val (.int ((i0 &&& (2147483647 : Int32)) % (6 : Int32))), .unset, .unset, .unset, .unset, .unset, .unset, .unset, .unset] []))
        obtain ⟨T58, X58, e58, st58⟩ := getS2 X0 hx hZ hown (host := "") (Or.inl (hw _ (List.mem_of_getElem? (i := 63) rfl))) Via.refl e0 (S_BODY.ext O0.2) (g := (mkF m 58 #[.val (.int i0), .val (.long i1), .second, .val (.int i2), .val (.int ((i0 &&& (2147483647 : Int32)) % (6 : Int32))), .unset, .unset, .unset, .unset, .unset, .unset, .unset, .unset] [])) rfl (hb hby at_58)
        refine OGo.by st58 ?_
        show OGo p e below _ (T58.setTop (mkF m 61 #[.val (.int i0), .val (.long i1), .second, .val (.int i2), .val (.int ((i0 &&& (2147483647 : Int32)) % (6 : Int32))), .unset, .unset, .unset, .unset, .unset, .unset, .unset, .unset] [(.ref w_BODY)]))
        refine OGo.by (fun _ k => XS.astore X58.here hx rfl (hb hby at_61) rfl rfl (l' := #[.val (.int i0), .val (.long i1), .second, .val (.int i2), .val (.int ((i0 &&& (2147483647 : Int32)) % (6 : Int32))), .val (.ref w_BODY), .unset, .unset, .unset, .unset, .unset, .unset, .unset]) rfl k) ?_
        show OGo p e below _ (T58.setTop (mkF m 63 #[.val (.int i0), .val (.long i1), .second, .val (.int i2), .val (.int ((i0 &&& (2147483647 : Int32)) % (6 : Int32))), .val (.ref w_BODY), .unset, .unset, .unset, .unset, .unset, .unset, .unset] []))
        refine OGo.by (fun _ k => XS.lconst X58.here hx rfl (hb hby at_63) k) ?_
        show OGo p e below _ (T58.setTop (mkF m 64 #[.val (.int i0), .val (.long i1), .second, .val (.int i2), .val (.int ((i0 &&& (2147483647 : Int32)) % (6 : Int32))), .val (.ref w_BODY), .unset, .unset, .unset, .unset, .unset, .unset, .unset] [(.long (0 : Int64))]))
        refine OGo.by (fun _ k => XS.lstore X58.here hx rfl (hb hby at_64) rfl (l' := #[.val (.int i0), .val (.long i1), .second, .val (.int i2), .val (.int ((i0 &&& (2147483647 : Int32)) % (6 : Int32))), .val (.ref w_BODY), .val (.long (0 : Int64)), .second, .unset, .unset, .unset, .unset, .unset]) rfl k) ?_
        show OGo p e below _ (T58.setTop (mkF m 66 #[.val (.int i0), .val (.long i1), .second, .val (.int i2), .val (.int ((i0 &&& (2147483647 : Int32)) % (6 : Int32))), .val (.ref w_BODY), .val (.long (0 : Int64)), .second, .unset, .unset, .unset, .unset, .unset] []))
        refine OGo.by (X58.ldc2Long hx hown (mvT hZ (hw _ (List.mem_of_getElem? (i := 65) rfl))) (g := (mkF m 66 #[.val (.int i0), .val (.long i1), .second, .val (.int i2), .val (.int ((i0 &&& (2147483647 : Int32)) % (6 : Int32))), .val (.ref w_BODY), .val (.long (0 : Int64)), .second, .unset, .unset, .unset, .unset, .unset] [])) rfl (hb hby at_66)) ?_
        show OGo p e below _ (T58.setTop (mkF m 69 #[.val (.int i0), .val (.long i1), .second, .val (.int i2), .val (.int ((i0 &&& (2147483647 : Int32)) % (6 : Int32))), .val (.ref w_BODY), .val (.long (0 : Int64)), .second, .unset, .unset, .unset, .unset, .unset] [(.long (1048576 : Int64))]))
        refine OGo.by (fun _ k => XS.lstore X58.here hx rfl (hb hby at_69) rfl (l' := #[.val (.int i0), .val (.long i1), .second, .val (.int i2), .val (.int ((i0 &&& (2147483647 : Int32)) % (6 : Int32))), .val (.ref w_BODY), .val (.long (0 : Int64)), .second, .val (.long (1048576 : Int64)), .second, .unset, .unset, .unset]) rfl k) ?_
        show OGo p e below _ (T58.setTop (mkF m 71 #[.val (.int i0), .val (.long i1), .second, .val (.int i2), .val (.int ((i0 &&& (2147483647 : Int32)) % (6 : Int32))), .val (.ref w_BODY), .val (.long (0 : Int64)), .second, .val (.long (1048576 : Int64)), .second, .unset, .unset, .unset] []))
        refine OGo.by (fun _ k => XS.goto X58.here hx rfl (pc0 := 71) (pc' := 131) rfl (hb hby at_71) (by decide) (by decide) k) ?_
        show OGo p e below _ (T58.setTop (mkF m 131 #[.val (.int i0), .val (.long i1), .second, .val (.int i2), .val (.int ((i0 &&& (2147483647 : Int32)) % (6 : Int32))), .val (.ref w_BODY), .val (.long (0 : Int64)), .second, .val (.long (1048576 : Int64)), .second, .unset, .unset, .unset] []))
        refine OGo.by (fun _ k => XS.lload X58.here hx rfl (hb hby at_131) rfl k) ?_
        show OGo p e below _ (T58.setTop (mkF m 133 #[.val (.int i0), .val (.long i1), .second, .val (.int i2), .val (.int ((i0 &&& (2147483647 : Int32)) % (6 : Int32))), .val (.ref w_BODY), .val (.long (0 : Int64)), .second, .val (.long (1048576 : Int64)), .second, .unset, .unset, .unset] [(.long (0 : Int64))]))
        refine OGo.by (fun _ k => XS.lloadN X58.here hx rfl (hb hby at_133) rfl k) ?_
        show OGo p e below _ (T58.setTop (mkF m 134 #[.val (.int i0), .val (.long i1), .second, .val (.int i2), .val (.int ((i0 &&& (2147483647 : Int32)) % (6 : Int32))), .val (.ref w_BODY), .val (.long (0 : Int64)), .second, .val (.long (1048576 : Int64)), .second, .unset, .unset, .unset] [(.long i1), (.long (0 : Int64))]))
        refine OGo.by (X58.ldc2Long hx hown (mvT hZ (hw _ (List.mem_of_getElem? (i := 5) rfl))) (g := (mkF m 134 #[.val (.int i0), .val (.long i1), .second, .val (.int i2), .val (.int ((i0 &&& (2147483647 : Int32)) % (6 : Int32))), .val (.ref w_BODY), .val (.long (0 : Int64)), .second, .val (.long (1048576 : Int64)), .second, .unset, .unset, .unset] [(.long i1), (.long (0 : Int64))])) rfl (hb hby at_134)) ?_
        show OGo p e below _ (T58.setTop (mkF m 137 #[.val (.int i0), .val (.long i1), .second, .val (.int i2), .val (.int ((i0 &&& (2147483647 : Int32)) % (6 : Int32))), .val (.ref w_BODY), .val (.long (0 : Int64)), .second, .val (.long (1048576 : Int64)), .second, .unset, .unset, .unset] [(.long (9223372036854775807 : Int64)), (.long i1), (.long (0 : Int64))]))
        refine OGo.by (fun _ k => XS.land X58.here hx rfl (hb hby at_137) rfl k) ?_
        show OGo p e below _ (T58.setTop (mkF m 138 #[.val (.int i0), .val (.long i1), .second, .val (.int i2), .val (.int ((i0 &&& (2147483647 : Int32)) % (6 : Int32))), .val (.ref w_BODY), .val (.long (0 : Int64)), .second, .val (.long (1048576 : Int64)), .second, .unset, .unset, .unset] [(.long (i1 &&& (9223372036854775807 : Int64))), (.long (0 : Int64))]))
        refine OGo.by (fun _ k => XS.lload X58.here hx rfl (hb hby at_138) rfl k) ?_
        show OGo p e below _ (T58.setTop (mkF m 140 #[.val (.int i0), .val (.long i1), .second, .val (.int i2), .val (.int ((i0 &&& (2147483647 : Int32)) % (6 : Int32))), .val (.ref w_BODY), .val (.long (0 : Int64)), .second, .val (.long (1048576 : Int64)), .second, .unset, .unset, .unset] [(.long (1048576 : Int64)), (.long (i1 &&& (9223372036854775807 : Int64))), (.long (0 : Int64))]))
        refine OGo.by (fun _ k => XS.lload X58.here hx rfl (hb hby at_140) rfl k) ?_
        show OGo p e below _ (T58.setTop (mkF m 142 #[.val (.int i0), .val (.long i1), .second, .val (.int i2), .val (.int ((i0 &&& (2147483647 : Int32)) % (6 : Int32))), .val (.ref w_BODY), .val (.long (0 : Int64)), .second, .val (.long (1048576 : Int64)), .second, .unset, .unset, .unset] [(.long (0 : Int64)), (.long (1048576 : Int64)), (.long (i1 &&& (9223372036854775807 : Int64))), (.long (0 : Int64))]))
        refine OGo.by (fun _ k => XS.lsub X58.here hx rfl (hb hby at_142) rfl k) ?_
        show OGo p e below _ (T58.setTop (mkF m 143 #[.val (.int i0), .val (.long i1), .second, .val (.int i2), .val (.int ((i0 &&& (2147483647 : Int32)) % (6 : Int32))), .val (.ref w_BODY), .val (.long (0 : Int64)), .second, .val (.long (1048576 : Int64)), .second, .unset, .unset, .unset] [(.long ((1048576 : Int64) - (0 : Int64))), (.long (i1 &&& (9223372036854775807 : Int64))), (.long (0 : Int64))]))
        refine OGo.by (fun _ k => XS.lconst X58.here hx rfl (hb hby at_143) k) ?_
        show OGo p e below _ (T58.setTop (mkF m 144 #[.val (.int i0), .val (.long i1), .second, .val (.int i2), .val (.int ((i0 &&& (2147483647 : Int32)) % (6 : Int32))), .val (.ref w_BODY), .val (.long (0 : Int64)), .second, .val (.long (1048576 : Int64)), .second, .unset, .unset, .unset] [(.long (1 : Int64)), (.long ((1048576 : Int64) - (0 : Int64))), (.long (i1 &&& (9223372036854775807 : Int64))), (.long (0 : Int64))]))
        refine OGo.by (fun _ k => XS.ladd X58.here hx rfl (hb hby at_144) rfl k) ?_
        show OGo p e below _ (T58.setTop (mkF m 145 #[.val (.int i0), .val (.long i1), .second, .val (.int i2), .val (.int ((i0 &&& (2147483647 : Int32)) % (6 : Int32))), .val (.ref w_BODY), .val (.long (0 : Int64)), .second, .val (.long (1048576 : Int64)), .second, .unset, .unset, .unset] [(.long (((1048576 : Int64) - (0 : Int64)) + (1 : Int64))), (.long (i1 &&& (9223372036854775807 : Int64))), (.long (0 : Int64))]))
        refine OGo.by (fun _ k => XS.lrem X58.here hx rfl (hb hby at_145) rfl (by decide) k) ?_
        show OGo p e below _ (T58.setTop (mkF m 146 #[.val (.int i0), .val (.long i1), .second, .val (.int i2), .val (.int ((i0 &&& (2147483647 : Int32)) % (6 : Int32))), .val (.ref w_BODY), .val (.long (0 : Int64)), .second, .val (.long (1048576 : Int64)), .second, .unset, .unset, .unset] [(.long ((i1 &&& (9223372036854775807 : Int64)) - ((i1 &&& (9223372036854775807 : Int64)) / (((1048576 : Int64) - (0 : Int64)) + (1 : Int64))) * (((1048576 : Int64) - (0 : Int64)) + (1 : Int64)))), (.long (0 : Int64))]))
        refine OGo.by (fun _ k => XS.ladd X58.here hx rfl (hb hby at_146) rfl k) ?_
        show OGo p e below _ (T58.setTop (mkF m 147 #[.val (.int i0), .val (.long i1), .second, .val (.int i2), .val (.int ((i0 &&& (2147483647 : Int32)) % (6 : Int32))), .val (.ref w_BODY), .val (.long (0 : Int64)), .second, .val (.long (1048576 : Int64)), .second, .unset, .unset, .unset] [(.long ((0 : Int64) + ((i1 &&& (9223372036854775807 : Int64)) - ((i1 &&& (9223372036854775807 : Int64)) / (((1048576 : Int64) - (0 : Int64)) + (1 : Int64))) * (((1048576 : Int64) - (0 : Int64)) + (1 : Int64)))))]))
        refine OGo.by (fun _ k => XS.lstore X58.here hx rfl (hb hby at_147) rfl (l' := #[.val (.int i0), .val (.long i1), .second, .val (.int i2), .val (.int ((i0 &&& (2147483647 : Int32)) % (6 : Int32))), .val (.ref w_BODY), .val (.long (0 : Int64)), .second, .val (.long (1048576 : Int64)), .second, .val (.long ((0 : Int64) + ((i1 &&& (9223372036854775807 : Int64)) - ((i1 &&& (9223372036854775807 : Int64)) / (((1048576 : Int64) - (0 : Int64)) + (1 : Int64))) * (((1048576 : Int64) - (0 : Int64)) + (1 : Int64))))), .second, .unset]) rfl k) ?_
        show OGo p e below _ (T58.setTop (mkF m 149 #[.val (.int i0), .val (.long i1), .second, .val (.int i2), .val (.int ((i0 &&& (2147483647 : Int32)) % (6 : Int32))), .val (.ref w_BODY), .val (.long (0 : Int64)), .second, .val (.long (1048576 : Int64)), .second, .val (.long ((0 : Int64) + ((i1 &&& (9223372036854775807 : Int64)) - ((i1 &&& (9223372036854775807 : Int64)) / (((1048576 : Int64) - (0 : Int64)) + (1 : Int64))) * (((1048576 : Int64) - (0 : Int64)) + (1 : Int64))))), .second, .unset] []))
        obtain ⟨T59, h59, X59, e59, E59, A59, D59, U59, st59⟩ := newO X58 hx hZ hown (hw _ (List.mem_of_getElem? (i := 6) rfl)) (hw _ (List.mem_of_getElem? (i := 7) rfl)) (hw _ (List.mem_of_getElem? (i := 8) rfl)) e58 (g := (mkF m 149 #[.val (.int i0), .val (.long i1), .second, .val (.int i2), .val (.int ((i0 &&& (2147483647 : Int32)) % (6 : Int32))), .val (.ref w_BODY), .val (.long (0 : Int64)), .second, .val (.long (1048576 : Int64)), .second, .val (.long ((0 : Int64) + ((i1 &&& (9223372036854775807 : Int64)) - ((i1 &&& (9223372036854775807 : Int64)) / (((1048576 : Int64) - (0 : Int64)) + (1 : Int64))) * (((1048576 : Int64) - (0 : Int64)) + (1 : Int64))))), .second, .unset] [])) rfl (hb hby at_149) (by decide) (by decide)
        obtain ⟨b59, g59⟩ : ∃ z, z = h0.size := ⟨_, rfl⟩
        rw [← g59] at A59 D59 U59 st59
        have ne_w_NAME_b59 : w_NAME ≠ b59 := Nat.ne_of_lt (Nat.lt_of_lt_of_le E_NAME.lt (Nat.le_of_eq g59.symm))
        have ne_w_TITLE_b59 : w_TITLE ≠ b59 := Nat.ne_of_lt (Nat.lt_of_lt_of_le E_TITLE.lt (Nat.le_of_eq g59.symm))
        have ne_w_BODY_b59 : w_BODY ≠ b59 := Nat.ne_of_lt (Nat.lt_of_lt_of_le E_BODY.lt (Nat.le_of_eq g59.symm))
        have ne_w_RECIPIENTS_b59 : w_RECIPIENTS ≠ b59 := Nat.ne_of_lt (Nat.lt_of_lt_of_le E_RECIPIENTS.lt (Nat.le_of_eq g59.symm))
        have ne_w_MEMBERS_b59 : w_MEMBERS ≠ b59 := Nat.ne_of_lt (Nat.lt_of_lt_of_le E_MEMBERS.lt (Nat.le_of_eq g59.symm))
        have ne_w_SUBSCRIBER_IDS_b59 : w_SUBSCRIBER_IDS ≠ b59 := Nat.ne_of_lt (Nat.lt_of_lt_of_le E_SUBSCRIBER_IDS.lt (Nat.le_of_eq g59.symm))
        have g_b59 : n0 ≤ b59 := Nat.le_trans Z0 (Nat.le_of_eq g59.symm)
        have sz_b59 : h0.size ≤ b59 := Nat.le_trans (Nat.le_refl _) (Nat.le_of_eq g59.symm)
        refine OGo.by st59 ?_
        have K59 : Keep h0 h59 [] := ((Keep.refl h0 [])).ext E59
        have F59_coder : Fld Z h59 b59 "java/lang/String" "coder" "B" (.int (0 : Int32)) := D59 (Or.inr (hw _ (List.mem_of_getElem? (i := 33) rfl))) (ty := .byte) (by decide)
        have F59_value : Fld Z h59 b59 "java/lang/String" "value" "[B" .null := D59 (Or.inr (hw _ (List.mem_of_getElem? (i := 35) rfl))) (ty := (.array .byte)) (by decide)
        show OGo p e below _ (T59.setTop (mkF m 152 #[.val (.int i0), .val (.long i1), .second, .val (.int i2), .val (.int ((i0 &&& (2147483647 : Int32)) % (6 : Int32))), .val (.ref w_BODY), .val (.long (0 : Int64)), .second, .val (.long (1048576 : Int64)), .second, .val (.long ((0 : Int64) + ((i1 &&& (9223372036854775807 : Int64)) - ((i1 &&& (9223372036854775807 : Int64)) / (((1048576 : Int64) - (0 : Int64)) + (1 : Int64))) * (((1048576 : Int64) - (0 : Int64)) + (1 : Int64))))), .second, .unset] [(.ref b59)]))
        refine OGo.by (fun _ k => XS.dup X59.here hx rfl (hb hby at_152) rfl rfl k) ?_
        show OGo p e below _ (T59.setTop (mkF m 153 #[.val (.int i0), .val (.long i1), .second, .val (.int i2), .val (.int ((i0 &&& (2147483647 : Int32)) % (6 : Int32))), .val (.ref w_BODY), .val (.long (0 : Int64)), .second, .val (.long (1048576 : Int64)), .second, .val (.long ((0 : Int64) + ((i1 &&& (9223372036854775807 : Int64)) - ((i1 &&& (9223372036854775807 : Int64)) / (((1048576 : Int64) - (0 : Int64)) + (1 : Int64))) * (((1048576 : Int64) - (0 : Int64)) + (1 : Int64))))), .second, .unset] [(.ref b59), (.ref b59)]))
        refine OGo.by (fun _ k => XS.iconst X59.here hx rfl (hb hby at_153) k) ?_
        show OGo p e below _ (T59.setTop (mkF m 154 #[.val (.int i0), .val (.long i1), .second, .val (.int i2), .val (.int ((i0 &&& (2147483647 : Int32)) % (6 : Int32))), .val (.ref w_BODY), .val (.long (0 : Int64)), .second, .val (.long (1048576 : Int64)), .second, .val (.long ((0 : Int64) + ((i1 &&& (9223372036854775807 : Int64)) - ((i1 &&& (9223372036854775807 : Int64)) / (((1048576 : Int64) - (0 : Int64)) + (1 : Int64))) * (((1048576 : Int64) - (0 : Int64)) + (1 : Int64))))), .second, .unset] [(.int (1 : Int32)), (.ref b59), (.ref b59)]))
        obtain ⟨T60, h60, k60, X60, e60, E60, A60, st60⟩ := newP X59 hx hZ (hw _ (List.mem_of_getElem? (i := 9) rfl)) e59 (g := (mkF m 154 #[.val (.int i0), .val (.long i1), .second, .val (.int i2), .val (.int ((i0 &&& (2147483647 : Int32)) % (6 : Int32))), .val (.ref w_BODY), .val (.long (0 : Int64)), .second, .val (.long (1048576 : Int64)), .second, .val (.long ((0 : Int64) + ((i1 &&& (9223372036854775807 : Int64)) - ((i1 &&& (9223372036854775807 : Int64)) / (((1048576 : Int64) - (0 : Int64)) + (1 : Int64))) * (((1048576 : Int64) - (0 : Int64)) + (1 : Int64))))), .second, .unset] [(.int (1 : Int32)), (.ref b59), (.ref b59)])) rfl (hb hby at_154) rfl (by decide : ¬ ((1 : Int32) < (0 : Int32))) (cap := 1) (by decide) (by decide) (by decide) (by decide)
        obtain ⟨b60, g60⟩ : ∃ z, z = h59.size := ⟨_, rfl⟩
        rw [← g60] at A60 st60
        have f61 : Exa Z h59 w_NAME "com/example/kept_inbox/keptinbox/Limit" := (E_NAME.ext E59)
        have ne_w_NAME_b60 : w_NAME ≠ b60 := Nat.ne_of_lt (Nat.lt_of_lt_of_le f61.lt (Nat.le_of_eq g60.symm))
        have f62 : Exa Z h59 w_TITLE "com/example/kept_inbox/keptinbox/Limit" := (E_TITLE.ext E59)
        have ne_w_TITLE_b60 : w_TITLE ≠ b60 := Nat.ne_of_lt (Nat.lt_of_lt_of_le f62.lt (Nat.le_of_eq g60.symm))
        have f63 : Exa Z h59 w_BODY "com/example/kept_inbox/keptinbox/Limit" := (E_BODY.ext E59)
        have ne_w_BODY_b60 : w_BODY ≠ b60 := Nat.ne_of_lt (Nat.lt_of_lt_of_le f63.lt (Nat.le_of_eq g60.symm))
        have f64 : Exa Z h59 w_RECIPIENTS "com/example/kept_inbox/keptinbox/Limit" := (E_RECIPIENTS.ext E59)
        have ne_w_RECIPIENTS_b60 : w_RECIPIENTS ≠ b60 := Nat.ne_of_lt (Nat.lt_of_lt_of_le f64.lt (Nat.le_of_eq g60.symm))
        have f65 : Exa Z h59 w_MEMBERS "com/example/kept_inbox/keptinbox/Limit" := (E_MEMBERS.ext E59)
        have ne_w_MEMBERS_b60 : w_MEMBERS ≠ b60 := Nat.ne_of_lt (Nat.lt_of_lt_of_le f65.lt (Nat.le_of_eq g60.symm))
        have f66 : Exa Z h59 w_SUBSCRIBER_IDS "com/example/kept_inbox/keptinbox/Limit" := (E_SUBSCRIBER_IDS.ext E59)
        have ne_w_SUBSCRIBER_IDS_b60 : w_SUBSCRIBER_IDS ≠ b60 := Nat.ne_of_lt (Nat.lt_of_lt_of_le f66.lt (Nat.le_of_eq g60.symm))
        have ne_b59_b60 : b59 ≠ b60 := Nat.ne_of_lt (Nat.lt_of_lt_of_le A59.lt (Nat.le_of_eq g60.symm))
        have g_b60 : n0 ≤ b60 := Nat.le_trans (Nat.le_trans Z0 K59.1) (Nat.le_of_eq g60.symm)
        have sz_b60 : h0.size ≤ b60 := Nat.le_trans K59.1 (Nat.le_of_eq g60.symm)
        refine OGo.by st60 ?_
        have K60 : Keep h0 h60 [] := (K59).ext E60
        have V60 : Arv Z h60 b60 k60 .char (1 : Int32) [(.int (0 : Int32))] (.int (0 : Int32)) := (Arv.new A60 (by decide)).pad (pad_rep [] (.int (0 : Int32)) 1)
        show OGo p e below _ (T60.setTop (mkF m 156 #[.val (.int i0), .val (.long i1), .second, .val (.int i2), .val (.int ((i0 &&& (2147483647 : Int32)) % (6 : Int32))), .val (.ref w_BODY), .val (.long (0 : Int64)), .second, .val (.long (1048576 : Int64)), .second, .val (.long ((0 : Int64) + ((i1 &&& (9223372036854775807 : Int64)) - ((i1 &&& (9223372036854775807 : Int64)) / (((1048576 : Int64) - (0 : Int64)) + (1 : Int64))) * (((1048576 : Int64) - (0 : Int64)) + (1 : Int64))))), .second, .unset] [(.ref b60), (.ref b59), (.ref b59)]))
        refine OGo.by (fun _ k => XS.dup X60.here hx rfl (hb hby at_156) rfl rfl k) ?_
        show OGo p e below _ (T60.setTop (mkF m 157 #[.val (.int i0), .val (.long i1), .second, .val (.int i2), .val (.int ((i0 &&& (2147483647 : Int32)) % (6 : Int32))), .val (.ref w_BODY), .val (.long (0 : Int64)), .second, .val (.long (1048576 : Int64)), .second, .val (.long ((0 : Int64) + ((i1 &&& (9223372036854775807 : Int64)) - ((i1 &&& (9223372036854775807 : Int64)) / (((1048576 : Int64) - (0 : Int64)) + (1 : Int64))) * (((1048576 : Int64) - (0 : Int64)) + (1 : Int64))))), .second, .unset] [(.ref b60), (.ref b60), (.ref b59), (.ref b59)]))
        refine OGo.by (fun _ k => XS.iconst X60.here hx rfl (hb hby at_157) k) ?_
        show OGo p e below _ (T60.setTop (mkF m 158 #[.val (.int i0), .val (.long i1), .second, .val (.int i2), .val (.int ((i0 &&& (2147483647 : Int32)) % (6 : Int32))), .val (.ref w_BODY), .val (.long (0 : Int64)), .second, .val (.long (1048576 : Int64)), .second, .val (.long ((0 : Int64) + ((i1 &&& (9223372036854775807 : Int64)) - ((i1 &&& (9223372036854775807 : Int64)) / (((1048576 : Int64) - (0 : Int64)) + (1 : Int64))) * (((1048576 : Int64) - (0 : Int64)) + (1 : Int64))))), .second, .unset] [(.int (0 : Int32)), (.ref b60), (.ref b60), (.ref b59), (.ref b59)]))
        refine OGo.by (fun _ k => XS.iloadN X60.here hx rfl (hb hby at_158) rfl k) ?_
        show OGo p e below _ (T60.setTop (mkF m 159 #[.val (.int i0), .val (.long i1), .second, .val (.int i2), .val (.int ((i0 &&& (2147483647 : Int32)) % (6 : Int32))), .val (.ref w_BODY), .val (.long (0 : Int64)), .second, .val (.long (1048576 : Int64)), .second, .val (.long ((0 : Int64) + ((i1 &&& (9223372036854775807 : Int64)) - ((i1 &&& (9223372036854775807 : Int64)) / (((1048576 : Int64) - (0 : Int64)) + (1 : Int64))) * (((1048576 : Int64) - (0 : Int64)) + (1 : Int64))))), .second, .unset] [(.int i2), (.int (0 : Int32)), (.ref b60), (.ref b60), (.ref b59), (.ref b59)]))
        refine OGo.by (fun _ k => XS.sipush X60.here hx rfl (hb hby at_159) k) ?_
        show OGo p e below _ (T60.setTop (mkF m 162 #[.val (.int i0), .val (.long i1), .second, .val (.int i2), .val (.int ((i0 &&& (2147483647 : Int32)) % (6 : Int32))), .val (.ref w_BODY), .val (.long (0 : Int64)), .second, .val (.long (1048576 : Int64)), .second, .val (.long ((0 : Int64) + ((i1 &&& (9223372036854775807 : Int64)) - ((i1 &&& (9223372036854775807 : Int64)) / (((1048576 : Int64) - (0 : Int64)) + (1 : Int64))) * (((1048576 : Int64) - (0 : Int64)) + (1 : Int64))))), .second, .unset] [(.int (255 : Int32)), (.int i2), (.int (0 : Int32)), (.ref b60), (.ref b60), (.ref b59), (.ref b59)]))
        refine OGo.by (fun _ k => XS.iand X60.here hx rfl (hb hby at_162) rfl k) ?_
        show OGo p e below _ (T60.setTop (mkF m 163 #[.val (.int i0), .val (.long i1), .second, .val (.int i2), .val (.int ((i0 &&& (2147483647 : Int32)) % (6 : Int32))), .val (.ref w_BODY), .val (.long (0 : Int64)), .second, .val (.long (1048576 : Int64)), .second, .val (.long ((0 : Int64) + ((i1 &&& (9223372036854775807 : Int64)) - ((i1 &&& (9223372036854775807 : Int64)) / (((1048576 : Int64) - (0 : Int64)) + (1 : Int64))) * (((1048576 : Int64) - (0 : Int64)) + (1 : Int64))))), .second, .unset] [(.int (i2 &&& (255 : Int32))), (.int (0 : Int32)), (.ref b60), (.ref b60), (.ref b59), (.ref b59)]))
        refine OGo.by (fun _ k => XS.i2c X60.here hx rfl (hb hby at_163) rfl k) ?_
        show OGo p e below _ (T60.setTop (mkF m 164 #[.val (.int i0), .val (.long i1), .second, .val (.int i2), .val (.int ((i0 &&& (2147483647 : Int32)) % (6 : Int32))), .val (.ref w_BODY), .val (.long (0 : Int64)), .second, .val (.long (1048576 : Int64)), .second, .val (.long ((0 : Int64) + ((i1 &&& (9223372036854775807 : Int64)) - ((i1 &&& (9223372036854775807 : Int64)) / (((1048576 : Int64) - (0 : Int64)) + (1 : Int64))) * (((1048576 : Int64) - (0 : Int64)) + (1 : Int64))))), .second, .unset] [(.int ((i2 &&& (255 : Int32)).toUInt32.toUInt16.toUInt32.toInt32)), (.int (0 : Int32)), (.ref b60), (.ref b60), (.ref b59), (.ref b59)]))
        obtain ⟨cl67, Ar67, q67, S67, M67, Hs67, G67⟩ := id V60
        obtain ⟨T67, h67, X67, e67, W67, st67⟩ := stC X60 hx hZ e60 Ar67 (j := (0 : Int32)) (inb_of S67 ⟨(by decide), (by decide)⟩) (g := (mkF m 164 #[.val (.int i0), .val (.long i1), .second, .val (.int i2), .val (.int ((i0 &&& (2147483647 : Int32)) % (6 : Int32))), .val (.ref w_BODY), .val (.long (0 : Int64)), .second, .val (.long (1048576 : Int64)), .second, .val (.long ((0 : Int64) + ((i1 &&& (9223372036854775807 : Int64)) - ((i1 &&& (9223372036854775807 : Int64)) / (((1048576 : Int64) - (0 : Int64)) + (1 : Int64))) * (((1048576 : Int64) - (0 : Int64)) + (1 : Int64))))), .second, .unset] [(.int ((i2 &&& (255 : Int32)).toUInt32.toUInt16.toUInt32.toInt32)), (.int (0 : Int32)), (.ref b60), (.ref b60), (.ref b59), (.ref b59)])) rfl rfl (hb hby at_164)
        refine OGo.by st67 ?_
        have N67 := Fr.snoc X67 N0 g_b60
        have K67 : Keep h0 h67 [] := (K60).wr W67 (Or.inr sz_b60)
        have V67 : Arv Z h67 b60 k60 .char (1 : Int32) [(.int (nar .char ((i2 &&& (255 : Int32)).toUInt32.toUInt16.toUInt32.toInt32)))] (.int (0 : Int32)) := Arv.set Ar67 q67 S67 M67 Hs67 G67 (fits_nar_char _) W67 0 rfl (Nat.le_of_ble_eq_true rfl)
        show OGo p e below _ (T67.setTop (mkF m 165 #[.val (.int i0), .val (.long i1), .second, .val (.int i2), .val (.int ((i0 &&& (2147483647 : Int32)) % (6 : Int32))), .val (.ref w_BODY), .val (.long (0 : Int64)), .second, .val (.long (1048576 : Int64)), .second, .val (.long ((0 : Int64) + ((i1 &&& (9223372036854775807 : Int64)) - ((i1 &&& (9223372036854775807 : Int64)) / (((1048576 : Int64) - (0 : Int64)) + (1 : Int64))) * (((1048576 : Int64) - (0 : Int64)) + (1 : Int64))))), .second, .unset] [(.ref b60), (.ref b59), (.ref b59)]))
        have f69 : Exa Z h67 b59 "java/lang/String" := ((A59.ext E60).wr W67)
        have f70 : Fld Z h67 b59 "java/lang/String" "value" "[B" .null := ((F59_value.ext E60).other W67 (Or.inl ne_b59_b60))
        have f71 : Fld Z h67 b59 "java/lang/String" "coder" "B" (.int (0 : Int32)) := ((F59_coder.ext E60).other W67 (Or.inl ne_b59_b60))
        have f72 : Old Z n0 h67 := (((O0.ext E59).ext E60).wr W67 g_b60)
        have hp68 : ∀ c ∈ ([(nar .char ((i2 &&& (255 : Int32)).toUInt32.toUInt16.toUInt32.toInt32))] : List Int32), ¬ c < 0 ∧ ¬ (255 : Int32) < c := by
          intro c hc; simp only [List.mem_cons, List.not_mem_nil, or_false] at hc
          subst hc; exact and255_chars i2
        have hws68 : ∀ d ∈ StrChars.Road.words, d.before av0 Z = true := fun d hd => hw d ((by decide +kernel : ∀ d ∈ StrChars.Road.words, d ∈ tables_1) d hd)
        obtain ⟨_, _, ⟨T68, L68, k68, n68⟩, -, X68, ⟨Lc68, hQ68, l68, y68, z68⟩, st68⟩ := X67.specialBack hx (y := (⟨"java/lang/String", "<init>", "([C)V"⟩ : MethodName)) rfl hown (mvT hZ (hw _ (List.mem_of_getElem? (i := 10) rfl))) (mvT hZ (hw _ (List.mem_of_getElem? (i := 11) rfl))) (mvT hZ (hw _ (List.mem_of_getElem? (i := 12) rfl))) (by decide) (StrChars.Road.backV (W := 1) hZ hws68 (kI := 4) (hw _ (List.mem_of_getElem? (i := 7) rfl)) (cs := ([(nar .char ((i2 &&& (255 : Int32)).toUInt32.toUInt16.toUInt32.toInt32))] : List Int32)) (bs := ([(nar .char ((i2 &&& (255 : Int32)).toUInt32.toUInt16.toUInt32.toInt32))] : List Int32).map (fun c => c.toInt8.toInt32)) (n := 1) g_b59 (Nat.le_trans Z0 K67.1) f69 f70 f71 V67 (S1.ext f72.2) hcz rfl rfl (by decide) (by decide) hp68 rfl (by decide) (by decide)) (g := (mkF m 165 #[.val (.int i0), .val (.long i1), .second, .val (.int i2), .val (.int ((i0 &&& (2147483647 : Int32)) % (6 : Int32))), .val (.ref w_BODY), .val (.long (0 : Int64)), .second, .val (.long (1048576 : Int64)), .second, .val (.long ((0 : Int64) + ((i1 &&& (9223372036854775807 : Int64)) - ((i1 &&& (9223372036854775807 : Int64)) / (((1048576 : Int64) - (0 : Int64)) + (1 : Int64))) * (((1048576 : Int64) - (0 : Int64)) + (1 : Int64))))), .second, .unset] [(.ref b60), (.ref b59), (.ref b59)])) rfl (by rw [hml]; rfl) (Steps.refl _) (a := b59) (argsL := [(.ref b60)]) (rest := [(.ref b59)]) (lenOf own_pd0 rfl) rfl (by show 2 * 0 + _ ≤ _; exact Nat.le_of_eq rfl) (hb hby at_165) (fun _ _ => ⟨rfl, e67, (by decide : 2 + 1 ≤ _), (by decide : 5 + 1 ≤ _)⟩)
        dsimp only [Pt.U, Pt.locs, Pt.cells, Pt.slots] at X68 l68 y68 z68 st68 hQ68
        subst l68 y68 z68
        obtain ⟨rfl, N68q, Kc68, GE68, GC68, t68, kb68, gt68, ge68, ne_t68_b59, GV68, GA68⟩ := hQ68
        have N68 := Fr.app N67 N68q
        have f73 : Exa Z h67 w_NAME "com/example/kept_inbox/keptinbox/Limit" := ((f61.ext E60).wr W67)
        have ne_w_NAME_t68 : w_NAME ≠ t68 := Nat.ne_of_lt (Nat.lt_of_lt_of_le f73.lt ge68)
        have f74 : Exa Z h67 w_TITLE "com/example/kept_inbox/keptinbox/Limit" := ((f62.ext E60).wr W67)
        have ne_w_TITLE_t68 : w_TITLE ≠ t68 := Nat.ne_of_lt (Nat.lt_of_lt_of_le f74.lt ge68)
        have f75 : Exa Z h67 w_BODY "com/example/kept_inbox/keptinbox/Limit" := ((f63.ext E60).wr W67)
        have ne_w_BODY_t68 : w_BODY ≠ t68 := Nat.ne_of_lt (Nat.lt_of_lt_of_le f75.lt ge68)
        have f76 : Exa Z h67 w_RECIPIENTS "com/example/kept_inbox/keptinbox/Limit" := ((f64.ext E60).wr W67)
        have ne_w_RECIPIENTS_t68 : w_RECIPIENTS ≠ t68 := Nat.ne_of_lt (Nat.lt_of_lt_of_le f76.lt ge68)
        have f77 : Exa Z h67 w_MEMBERS "com/example/kept_inbox/keptinbox/Limit" := ((f65.ext E60).wr W67)
        have ne_w_MEMBERS_t68 : w_MEMBERS ≠ t68 := Nat.ne_of_lt (Nat.lt_of_lt_of_le f77.lt ge68)
        have f78 : Exa Z h67 w_SUBSCRIBER_IDS "com/example/kept_inbox/keptinbox/Limit" := ((f66.ext E60).wr W67)
        have ne_w_SUBSCRIBER_IDS_t68 : w_SUBSCRIBER_IDS ≠ t68 := Nat.ne_of_lt (Nat.lt_of_lt_of_le f78.lt ge68)
        have ne_b59_t68 : b59 ≠ t68 := Nat.ne_of_lt (Nat.lt_of_lt_of_le f69.lt ge68)
        have ne_b60_t68 : b60 ≠ t68 := Nat.ne_of_lt (Nat.lt_of_lt_of_le V67.lt ge68)
        have g_t68 : n0 ≤ t68 := Nat.le_trans (Nat.le_trans Z0 K67.1) ge68
        have sz_t68 : h0.size ≤ t68 := Nat.le_trans K67.1 ge68
        have K68 : Keep h0 T68.heap [] := (K67).trans Kc68 (fun x hx => by simp only [List.mem_cons, List.not_mem_nil, or_false] at hx; subst hx; exact Or.inr sz_b59)
        refine OGo.of st68 ?_
        show OGo p e below _ (T68.setTop (mkF m 168 #[.val (.int i0), .val (.long i1), .second, .val (.int i2), .val (.int ((i0 &&& (2147483647 : Int32)) % (6 : Int32))), .val (.ref w_BODY), .val (.long (0 : Int64)), .second, .val (.long (1048576 : Int64)), .second, .val (.long ((0 : Int64) + ((i1 &&& (9223372036854775807 : Int64)) - ((i1 &&& (9223372036854775807 : Int64)) / (((1048576 : Int64) - (0 : Int64)) + (1 : Int64))) * (((1048576 : Int64) - (0 : Int64)) + (1 : Int64))))), .second, .unset] [(.ref b59)]))
        refine OGo.by (fun _ k => XS.astore X68.here hx rfl (hb hby at_168) rfl rfl (l' := #[.val (.int i0), .val (.long i1), .second, .val (.int i2), .val (.int ((i0 &&& (2147483647 : Int32)) % (6 : Int32))), .val (.ref w_BODY), .val (.long (0 : Int64)), .second, .val (.long (1048576 : Int64)), .second, .val (.long ((0 : Int64) + ((i1 &&& (9223372036854775807 : Int64)) - ((i1 &&& (9223372036854775807 : Int64)) / (((1048576 : Int64) - (0 : Int64)) + (1 : Int64))) * (((1048576 : Int64) - (0 : Int64)) + (1 : Int64))))), .second, .val (.ref b59)]) rfl k) ?_
        show OGo p e below _ (T68.setTop (mkF m 170 #[.val (.int i0), .val (.long i1), .second, .val (.int i2), .val (.int ((i0 &&& (2147483647 : Int32)) % (6 : Int32))), .val (.ref w_BODY), .val (.long (0 : Int64)), .second, .val (.long (1048576 : Int64)), .second, .val (.long ((0 : Int64) + ((i1 &&& (9223372036854775807 : Int64)) - ((i1 &&& (9223372036854775807 : Int64)) / (((1048576 : Int64) - (0 : Int64)) + (1 : Int64))) * (((1048576 : Int64) - (0 : Int64)) + (1 : Int64))))), .second, .val (.ref b59)] []))
        refine OGo.by (fun _ k => XS.aload X68.here hx rfl (hb hby at_170) rfl rfl k) ?_
        show OGo p e below _ (T68.setTop (mkF m 172 #[.val (.int i0), .val (.long i1), .second, .val (.int i2), .val (.int ((i0 &&& (2147483647 : Int32)) % (6 : Int32))), .val (.ref w_BODY), .val (.long (0 : Int64)), .second, .val (.long (1048576 : Int64)), .second, .val (.long ((0 : Int64) + ((i1 &&& (9223372036854775807 : Int64)) - ((i1 &&& (9223372036854775807 : Int64)) / (((1048576 : Int64) - (0 : Int64)) + (1 : Int64))) * (((1048576 : Int64) - (0 : Int64)) + (1 : Int64))))), .second, .val (.ref b59)] [(.ref w_BODY)]))
        refine OGo.by (fun _ k => XS.aload X68.here hx rfl (hb hby at_172) rfl rfl k) ?_
        show OGo p e below _ (T68.setTop (mkF m 174 #[.val (.int i0), .val (.long i1), .second, .val (.int i2), .val (.int ((i0 &&& (2147483647 : Int32)) % (6 : Int32))), .val (.ref w_BODY), .val (.long (0 : Int64)), .second, .val (.long (1048576 : Int64)), .second, .val (.long ((0 : Int64) + ((i1 &&& (9223372036854775807 : Int64)) - ((i1 &&& (9223372036854775807 : Int64)) / (((1048576 : Int64) - (0 : Int64)) + (1 : Int64))) * (((1048576 : Int64) - (0 : Int64)) + (1 : Int64))))), .second, .val (.ref b59)] [(.ref b59), (.ref w_BODY)]))
        refine OGo.by (fun _ k => XS.lload X68.here hx rfl (hb hby at_174) rfl k) ?_
        show OGo p e below _ (T68.setTop (mkF m 176 #[.val (.int i0), .val (.long i1), .second, .val (.int i2), .val (.int ((i0 &&& (2147483647 : Int32)) % (6 : Int32))), .val (.ref w_BODY), .val (.long (0 : Int64)), .second, .val (.long (1048576 : Int64)), .second, .val (.long ((0 : Int64) + ((i1 &&& (9223372036854775807 : Int64)) - ((i1 &&& (9223372036854775807 : Int64)) / (((1048576 : Int64) - (0 : Int64)) + (1 : Int64))) * (((1048576 : Int64) - (0 : Int64)) + (1 : Int64))))), .second, .val (.ref b59)] [(.long ((0 : Int64) + ((i1 &&& (9223372036854775807 : Int64)) - ((i1 &&& (9223372036854775807 : Int64)) / (((1048576 : Int64) - (0 : Int64)) + (1 : Int64))) * (((1048576 : Int64) - (0 : Int64)) + (1 : Int64))))), (.ref b59), (.ref w_BODY)]))
        have f80 : Fld Z T68.heap w_BODY "com/example/kept_inbox/keptinbox/Limit" "min" "I" (.int (0 : Int32)) := ((((F_BODY_min.ext E59).ext E60).other W67 (Or.inl ne_w_BODY_b60)).keep Kc68 (ninS ne_w_BODY_b59 nin0))
        have f81 : Fld Z T68.heap w_BODY "com/example/kept_inbox/keptinbox/Limit" "max" "I" (.int (1048576 : Int32)) := ((((F_BODY_max.ext E59).ext E60).other W67 (Or.inl ne_w_BODY_b60)).keep Kc68 (ninS ne_w_BODY_b59 nin0))
        have f82 : Exa Z T68.heap w_BODY "com/example/kept_inbox/keptinbox/Limit" := (f75.keep Kc68)
        obtain ⟨cq79, kq79, q79a, q79b, q79c⟩ := isOf hZ rfl f82
        obtain ⟨_, _, ⟨T79, L79, k79, n79⟩, -, X79, ⟨Lc79, hQ79, l79, y79, z79⟩, st79⟩ := X68.virtualBack hx (y := (⟨"com/example/kept_inbox/keptinbox/Limit", "check", "(Ljava/lang/String;J)V"⟩ : MethodName)) (z := (⟨"com/example/kept_inbox/keptinbox/Limit", "check", "(Ljava/lang/String;J)V"⟩ : MethodName)) hown (mvT hZ (hw _ (List.mem_of_getElem? (i := 36) rfl))) (mvT hZ (hw _ (List.mem_of_getElem? (i := 37) rfl))) (notFace_of_selects (args := #[]) (mvT hZ (hw _ (List.mem_of_getElem? (i := 39) rfl)))) (mvT hZ (hw _ (List.mem_of_getElem? (i := 39) rfl))) (mvT hZ (hw _ (List.mem_of_getElem? (i := 38) rfl))) (by decide) (backOf (W := 0) (rm7 l Z av0 hw [] w_BODY b59 ((0 : Int64) + ((i1 &&& (9223372036854775807 : Int64)) - ((i1 &&& (9223372036854775807 : Int64)) / (((1048576 : Int64) - (0 : Int64)) + (1 : Int64))) * (((1048576 : Int64) - (0 : Int64)) + (1 : Int64)))) (0 : Int32) (1048576 : Int32) T68.heap n0 (Nat.le_trans Z0 K68.1) f80 f81 (own_nlt (own_rng (hi := (1048576 : Int64)) 0 1048576 (by decide) (by decide) (by decide) (by decide) (by decide) (own_nn i1)).1 (by decide)) (own_ngt (own_rng (hi := (1048576 : Int64)) 0 1048576 (by decide) (by decide) (by decide) (by decide) (by decide) (own_nn i1)).2 (by decide))) hZ (hw _ (List.mem_of_getElem? (i := 40) rfl)) (hw _ (List.mem_of_getElem? (i := 2) rfl)) (by decide) (by decide)) q79a q79c (g := (mkF m 176 #[.val (.int i0), .val (.long i1), .second, .val (.int i2), .val (.int ((i0 &&& (2147483647 : Int32)) % (6 : Int32))), .val (.ref w_BODY), .val (.long (0 : Int64)), .second, .val (.long (1048576 : Int64)), .second, .val (.long ((0 : Int64) + ((i1 &&& (9223372036854775807 : Int64)) - ((i1 &&& (9223372036854775807 : Int64)) / (((1048576 : Int64) - (0 : Int64)) + (1 : Int64))) * (((1048576 : Int64) - (0 : Int64)) + (1 : Int64))))), .second, .val (.ref b59)] [(.long ((0 : Int64) + ((i1 &&& (9223372036854775807 : Int64)) - ((i1 &&& (9223372036854775807 : Int64)) / (((1048576 : Int64) - (0 : Int64)) + (1 : Int64))) * (((1048576 : Int64) - (0 : Int64)) + (1 : Int64))))), (.ref b59), (.ref w_BODY)])) rfl (by rw [hml]; rfl) (Steps.refl _) (argsL := [(.ref b59), (.long ((0 : Int64) + ((i1 &&& (9223372036854775807 : Int64)) - ((i1 &&& (9223372036854775807 : Int64)) / (((1048576 : Int64) - (0 : Int64)) + (1 : Int64))) * (((1048576 : Int64) - (0 : Int64)) + (1 : Int64)))))]) (rest := []) (lenOf own_pd1 rfl) rfl (by show 2 * 0 + _ ≤ _; exact Nat.le_of_eq rfl) (hb hby at_176) (fun _ _ => ⟨rfl, rfl, (by decide : 3 + 0 ≤ _), (by decide : 6 + 0 ≤ _)⟩)
        dsimp only [Pt.U, Pt.locs, Pt.cells, Pt.slots] at X79 l79 y79 z79 st79 hQ79
        subst l79 y79 z79
        obtain ⟨rfl, N79q, e79⟩ := hQ79
        have N79 := Fr.app N68 N79q
        refine OGo.of st79 ?_
        show OGo p e below _ (T79.setTop (mkF m 179 #[.val (.int i0), .val (.long i1), .second, .val (.int i2), .val (.int ((i0 &&& (2147483647 : Int32)) % (6 : Int32))), .val (.ref w_BODY), .val (.long (0 : Int64)), .second, .val (.long (1048576 : Int64)), .second, .val (.long ((0 : Int64) + ((i1 &&& (9223372036854775807 : Int64)) - ((i1 &&& (9223372036854775807 : Int64)) / (((1048576 : Int64) - (0 : Int64)) + (1 : Int64))) * (((1048576 : Int64) - (0 : Int64)) + (1 : Int64))))), .second, .val (.ref b59)] []))
        refine OGo.by (fun _ k => XS.aload X79.here hx rfl (hb hby at_179) rfl rfl k) ?_
        show OGo p e below _ (T79.setTop (mkF m 181 #[.val (.int i0), .val (.long i1), .second, .val (.int i2), .val (.int ((i0 &&& (2147483647 : Int32)) % (6 : Int32))), .val (.ref w_BODY), .val (.long (0 : Int64)), .second, .val (.long (1048576 : Int64)), .second, .val (.long ((0 : Int64) + ((i1 &&& (9223372036854775807 : Int64)) - ((i1 &&& (9223372036854775807 : Int64)) / (((1048576 : Int64) - (0 : Int64)) + (1 : Int64))) * (((1048576 : Int64) - (0 : Int64)) + (1 : Int64))))), .second, .val (.ref b59)] [(.ref w_BODY)]))
        obtain ⟨cq83, kq83, q83a, q83b, q83c⟩ := isOf hZ e79 f82
        obtain ⟨_, _, ⟨T83, L83, k83, n83⟩, -, X83, ⟨Lc83, hQ83, l83, y83, z83⟩, st83⟩ := X79.virtualBack hx (y := (⟨"com/example/kept_inbox/keptinbox/Limit", "min", "()I"⟩ : MethodName)) (z := (⟨"com/example/kept_inbox/keptinbox/Limit", "min", "()I"⟩ : MethodName)) hown (mvT hZ (hw _ (List.mem_of_getElem? (i := 45) rfl))) (mvT hZ (hw _ (List.mem_of_getElem? (i := 46) rfl))) (notFace_of_selects (args := #[]) (mvT hZ (hw _ (List.mem_of_getElem? (i := 48) rfl)))) (mvT hZ (hw _ (List.mem_of_getElem? (i := 48) rfl))) (mvT hZ (hw _ (List.mem_of_getElem? (i := 47) rfl))) (by decide) (backOf (W := 0) (rm8 l Z av0 hw [] w_BODY (0 : Int32) T68.heap n0 (Nat.le_trans Z0 K68.1) f80) hZ (hw _ (List.mem_of_getElem? (i := 49) rfl)) (hw _ (List.mem_of_getElem? (i := 2) rfl)) (by decide) (by decide)) q83a q83c (g := (mkF m 181 #[.val (.int i0), .val (.long i1), .second, .val (.int i2), .val (.int ((i0 &&& (2147483647 : Int32)) % (6 : Int32))), .val (.ref w_BODY), .val (.long (0 : Int64)), .second, .val (.long (1048576 : Int64)), .second, .val (.long ((0 : Int64) + ((i1 &&& (9223372036854775807 : Int64)) - ((i1 &&& (9223372036854775807 : Int64)) / (((1048576 : Int64) - (0 : Int64)) + (1 : Int64))) * (((1048576 : Int64) - (0 : Int64)) + (1 : Int64))))), .second, .val (.ref b59)] [(.ref w_BODY)])) rfl (by rw [hml]; rfl) (Steps.refl _) (argsL := []) (rest := []) (lenOf own_pd2 rfl) rfl (by show 2 * 0 + _ ≤ _; exact Nat.le_of_eq rfl) (hb hby at_181) (fun _ _ => ⟨rfl, e79, (by decide : 3 + 0 ≤ _), (by decide : 6 + 0 ≤ _)⟩)
        dsimp only [Pt.U, Pt.locs, Pt.cells, Pt.slots] at X83 l83 y83 z83 st83 hQ83
        subst l83 y83 z83
        obtain ⟨rfl, N83q, e83⟩ := hQ83
        have N83 := Fr.app N79 N83q
        refine OGo.of st83 ?_
        show OGo p e below _ (T83.setTop (mkF m 184 #[.val (.int i0), .val (.long i1), .second, .val (.int i2), .val (.int ((i0 &&& (2147483647 : Int32)) % (6 : Int32))), .val (.ref w_BODY), .val (.long (0 : Int64)), .second, .val (.long (1048576 : Int64)), .second, .val (.long ((0 : Int64) + ((i1 &&& (9223372036854775807 : Int64)) - ((i1 &&& (9223372036854775807 : Int64)) / (((1048576 : Int64) - (0 : Int64)) + (1 : Int64))) * (((1048576 : Int64) - (0 : Int64)) + (1 : Int64))))), .second, .val (.ref b59)] [(.int (0 : Int32))]))
        refine OGo.by (fun _ k => XS.i2l X83.here hx rfl (hb hby at_184) rfl k) ?_
        show OGo p e below _ (T83.setTop (mkF m 185 #[.val (.int i0), .val (.long i1), .second, .val (.int i2), .val (.int ((i0 &&& (2147483647 : Int32)) % (6 : Int32))), .val (.ref w_BODY), .val (.long (0 : Int64)), .second, .val (.long (1048576 : Int64)), .second, .val (.long ((0 : Int64) + ((i1 &&& (9223372036854775807 : Int64)) - ((i1 &&& (9223372036854775807 : Int64)) / (((1048576 : Int64) - (0 : Int64)) + (1 : Int64))) * (((1048576 : Int64) - (0 : Int64)) + (1 : Int64))))), .second, .val (.ref b59)] [(.long ((0 : Int32).toInt64))]))
        refine OGo.by (fun _ k => XS.lload X83.here hx rfl (hb hby at_185) rfl k) ?_
        show OGo p e below _ (T83.setTop (mkF m 187 #[.val (.int i0), .val (.long i1), .second, .val (.int i2), .val (.int ((i0 &&& (2147483647 : Int32)) % (6 : Int32))), .val (.ref w_BODY), .val (.long (0 : Int64)), .second, .val (.long (1048576 : Int64)), .second, .val (.long ((0 : Int64) + ((i1 &&& (9223372036854775807 : Int64)) - ((i1 &&& (9223372036854775807 : Int64)) / (((1048576 : Int64) - (0 : Int64)) + (1 : Int64))) * (((1048576 : Int64) - (0 : Int64)) + (1 : Int64))))), .second, .val (.ref b59)] [(.long (0 : Int64)), (.long ((0 : Int32).toInt64))]))
        refine OGo.by (fun _ k => XS.lcmp X83.here hx rfl (hb hby at_187) rfl k) ?_
        show OGo p e below _ (T83.setTop (mkF m 188 #[.val (.int i0), .val (.long i1), .second, .val (.int i2), .val (.int ((i0 &&& (2147483647 : Int32)) % (6 : Int32))), .val (.ref w_BODY), .val (.long (0 : Int64)), .second, .val (.long (1048576 : Int64)), .second, .val (.long ((0 : Int64) + ((i1 &&& (9223372036854775807 : Int64)) - ((i1 &&& (9223372036854775807 : Int64)) / (((1048576 : Int64) - (0 : Int64)) + (1 : Int64))) * (((1048576 : Int64) - (0 : Int64)) + (1 : Int64))))), .second, .val (.ref b59)] [(.int (lcmpW ((0 : Int32).toInt64) (0 : Int64)))]))
        refine OGo.by (fun _ k => XS.ifNo X83.here hx rfl (hb hby at_188) rfl ((if0 _ _).trans (teq ((lw_eq _ _).mpr (by decide : ((0 : Int32).toInt64) = (0 : Int64)))).2) k) ?_
        show OGo p e below _ (T83.setTop (mkF m 191 #[.val (.int i0), .val (.long i1), .second, .val (.int i2), .val (.int ((i0 &&& (2147483647 : Int32)) % (6 : Int32))), .val (.ref w_BODY), .val (.long (0 : Int64)), .second, .val (.long (1048576 : Int64)), .second, .val (.long ((0 : Int64) + ((i1 &&& (9223372036854775807 : Int64)) - ((i1 &&& (9223372036854775807 : Int64)) / (((1048576 : Int64) - (0 : Int64)) + (1 : Int64))) * (((1048576 : Int64) - (0 : Int64)) + (1 : Int64))))), .second, .val (.ref b59)] []))
        refine OGo.by (fun _ k => XS.aload X83.here hx rfl (hb hby at_191) rfl rfl k) ?_
        show OGo p e below _ (T83.setTop (mkF m 193 #[.val (.int i0), .val (.long i1), .second, .val (.int i2), .val (.int ((i0 &&& (2147483647 : Int32)) % (6 : Int32))), .val (.ref w_BODY), .val (.long (0 : Int64)), .second, .val (.long (1048576 : Int64)), .second, .val (.long ((0 : Int64) + ((i1 &&& (9223372036854775807 : Int64)) - ((i1 &&& (9223372036854775807 : Int64)) / (((1048576 : Int64) - (0 : Int64)) + (1 : Int64))) * (((1048576 : Int64) - (0 : Int64)) + (1 : Int64))))), .second, .val (.ref b59)] [(.ref w_BODY)]))
        obtain ⟨cq84, kq84, q84a, q84b, q84c⟩ := isOf hZ e83 f82
        obtain ⟨_, _, ⟨T84, L84, k84, n84⟩, -, X84, ⟨Lc84, hQ84, l84, y84, z84⟩, st84⟩ := X83.virtualBack hx (y := (⟨"com/example/kept_inbox/keptinbox/Limit", "max", "()I"⟩ : MethodName)) (z := (⟨"com/example/kept_inbox/keptinbox/Limit", "max", "()I"⟩ : MethodName)) hown (mvT hZ (hw _ (List.mem_of_getElem? (i := 50) rfl))) (mvT hZ (hw _ (List.mem_of_getElem? (i := 51) rfl))) (notFace_of_selects (args := #[]) (mvT hZ (hw _ (List.mem_of_getElem? (i := 53) rfl)))) (mvT hZ (hw _ (List.mem_of_getElem? (i := 53) rfl))) (mvT hZ (hw _ (List.mem_of_getElem? (i := 52) rfl))) (by decide) (backOf (W := 0) (rm9 l Z av0 hw [] w_BODY (1048576 : Int32) T68.heap n0 (Nat.le_trans Z0 K68.1) f81) hZ (hw _ (List.mem_of_getElem? (i := 54) rfl)) (hw _ (List.mem_of_getElem? (i := 2) rfl)) (by decide) (by decide)) q84a q84c (g := (mkF m 193 #[.val (.int i0), .val (.long i1), .second, .val (.int i2), .val (.int ((i0 &&& (2147483647 : Int32)) % (6 : Int32))), .val (.ref w_BODY), .val (.long (0 : Int64)), .second, .val (.long (1048576 : Int64)), .second, .val (.long ((0 : Int64) + ((i1 &&& (9223372036854775807 : Int64)) - ((i1 &&& (9223372036854775807 : Int64)) / (((1048576 : Int64) - (0 : Int64)) + (1 : Int64))) * (((1048576 : Int64) - (0 : Int64)) + (1 : Int64))))), .second, .val (.ref b59)] [(.ref w_BODY)])) rfl (by rw [hml]; rfl) (Steps.refl _) (argsL := []) (rest := []) (lenOf own_pd2 rfl) rfl (by show 2 * 0 + _ ≤ _; exact Nat.le_of_eq rfl) (hb hby at_193) (fun _ _ => ⟨rfl, e83, (by decide : 3 + 0 ≤ _), (by decide : 6 + 0 ≤ _)⟩)
        dsimp only [Pt.U, Pt.locs, Pt.cells, Pt.slots] at X84 l84 y84 z84 st84 hQ84
        subst l84 y84 z84
        obtain ⟨rfl, N84q, e84⟩ := hQ84
        have N84 := Fr.app N83 N84q
        refine OGo.of st84 ?_
        show OGo p e below _ (T84.setTop (mkF m 196 #[.val (.int i0), .val (.long i1), .second, .val (.int i2), .val (.int ((i0 &&& (2147483647 : Int32)) % (6 : Int32))), .val (.ref w_BODY), .val (.long (0 : Int64)), .second, .val (.long (1048576 : Int64)), .second, .val (.long ((0 : Int64) + ((i1 &&& (9223372036854775807 : Int64)) - ((i1 &&& (9223372036854775807 : Int64)) / (((1048576 : Int64) - (0 : Int64)) + (1 : Int64))) * (((1048576 : Int64) - (0 : Int64)) + (1 : Int64))))), .second, .val (.ref b59)] [(.int (1048576 : Int32))]))
        refine OGo.by (fun _ k => XS.i2l X84.here hx rfl (hb hby at_196) rfl k) ?_
        show OGo p e below _ (T84.setTop (mkF m 197 #[.val (.int i0), .val (.long i1), .second, .val (.int i2), .val (.int ((i0 &&& (2147483647 : Int32)) % (6 : Int32))), .val (.ref w_BODY), .val (.long (0 : Int64)), .second, .val (.long (1048576 : Int64)), .second, .val (.long ((0 : Int64) + ((i1 &&& (9223372036854775807 : Int64)) - ((i1 &&& (9223372036854775807 : Int64)) / (((1048576 : Int64) - (0 : Int64)) + (1 : Int64))) * (((1048576 : Int64) - (0 : Int64)) + (1 : Int64))))), .second, .val (.ref b59)] [(.long ((1048576 : Int32).toInt64))]))
        refine OGo.by (fun _ k => XS.lload X84.here hx rfl (hb hby at_197) rfl k) ?_
        show OGo p e below _ (T84.setTop (mkF m 199 #[.val (.int i0), .val (.long i1), .second, .val (.int i2), .val (.int ((i0 &&& (2147483647 : Int32)) % (6 : Int32))), .val (.ref w_BODY), .val (.long (0 : Int64)), .second, .val (.long (1048576 : Int64)), .second, .val (.long ((0 : Int64) + ((i1 &&& (9223372036854775807 : Int64)) - ((i1 &&& (9223372036854775807 : Int64)) / (((1048576 : Int64) - (0 : Int64)) + (1 : Int64))) * (((1048576 : Int64) - (0 : Int64)) + (1 : Int64))))), .second, .val (.ref b59)] [(.long (1048576 : Int64)), (.long ((1048576 : Int32).toInt64))]))
        refine OGo.by (fun _ k => XS.lcmp X84.here hx rfl (hb hby at_199) rfl k) ?_
        show OGo p e below _ (T84.setTop (mkF m 200 #[.val (.int i0), .val (.long i1), .second, .val (.int i2), .val (.int ((i0 &&& (2147483647 : Int32)) % (6 : Int32))), .val (.ref w_BODY), .val (.long (0 : Int64)), .second, .val (.long (1048576 : Int64)), .second, .val (.long ((0 : Int64) + ((i1 &&& (9223372036854775807 : Int64)) - ((i1 &&& (9223372036854775807 : Int64)) / (((1048576 : Int64) - (0 : Int64)) + (1 : Int64))) * (((1048576 : Int64) - (0 : Int64)) + (1 : Int64))))), .second, .val (.ref b59)] [(.int (lcmpW ((1048576 : Int32).toInt64) (1048576 : Int64)))]))
        refine OGo.by (fun _ k => XS.ifNo X84.here hx rfl (hb hby at_200) rfl ((if0 _ _).trans (teq ((lw_eq _ _).mpr (by decide : ((1048576 : Int32).toInt64) = (1048576 : Int64)))).2) k) ?_
        show OGo p e below _ (T84.setTop (mkF m 203 #[.val (.int i0), .val (.long i1), .second, .val (.int i2), .val (.int ((i0 &&& (2147483647 : Int32)) % (6 : Int32))), .val (.ref w_BODY), .val (.long (0 : Int64)), .second, .val (.long (1048576 : Int64)), .second, .val (.long ((0 : Int64) + ((i1 &&& (9223372036854775807 : Int64)) - ((i1 &&& (9223372036854775807 : Int64)) / (((1048576 : Int64) - (0 : Int64)) + (1 : Int64))) * (((1048576 : Int64) - (0 : Int64)) + (1 : Int64))))), .second, .val (.ref b59)] []))
        refine OGo.by (fun _ k => XS.lload X84.here hx rfl (hb hby at_203) rfl k) ?_
        show OGo p e below _ (T84.setTop (mkF m 205 #[.val (.int i0), .val (.long i1), .second, .val (.int i2), .val (.int ((i0 &&& (2147483647 : Int32)) % (6 : Int32))), .val (.ref w_BODY), .val (.long (0 : Int64)), .second, .val (.long (1048576 : Int64)), .second, .val (.long ((0 : Int64) + ((i1 &&& (9223372036854775807 : Int64)) - ((i1 &&& (9223372036854775807 : Int64)) / (((1048576 : Int64) - (0 : Int64)) + (1 : Int64))) * (((1048576 : Int64) - (0 : Int64)) + (1 : Int64))))), .second, .val (.ref b59)] [(.long ((0 : Int64) + ((i1 &&& (9223372036854775807 : Int64)) - ((i1 &&& (9223372036854775807 : Int64)) / (((1048576 : Int64) - (0 : Int64)) + (1 : Int64))) * (((1048576 : Int64) - (0 : Int64)) + (1 : Int64)))))]))
        refine OGo.by (fun _ k => XS.lload X84.here hx rfl (hb hby at_205) rfl k) ?_
        show OGo p e below _ (T84.setTop (mkF m 207 #[.val (.int i0), .val (.long i1), .second, .val (.int i2), .val (.int ((i0 &&& (2147483647 : Int32)) % (6 : Int32))), .val (.ref w_BODY), .val (.long (0 : Int64)), .second, .val (.long (1048576 : Int64)), .second, .val (.long ((0 : Int64) + ((i1 &&& (9223372036854775807 : Int64)) - ((i1 &&& (9223372036854775807 : Int64)) / (((1048576 : Int64) - (0 : Int64)) + (1 : Int64))) * (((1048576 : Int64) - (0 : Int64)) + (1 : Int64))))), .second, .val (.ref b59)] [(.long (0 : Int64)), (.long ((0 : Int64) + ((i1 &&& (9223372036854775807 : Int64)) - ((i1 &&& (9223372036854775807 : Int64)) / (((1048576 : Int64) - (0 : Int64)) + (1 : Int64))) * (((1048576 : Int64) - (0 : Int64)) + (1 : Int64)))))]))
        refine OGo.by (fun _ k => XS.lcmp X84.here hx rfl (hb hby at_207) rfl k) ?_
        show OGo p e below _ (T84.setTop (mkF m 208 #[.val (.int i0), .val (.long i1), .second, .val (.int i2), .val (.int ((i0 &&& (2147483647 : Int32)) % (6 : Int32))), .val (.ref w_BODY), .val (.long (0 : Int64)), .second, .val (.long (1048576 : Int64)), .second, .val (.long ((0 : Int64) + ((i1 &&& (9223372036854775807 : Int64)) - ((i1 &&& (9223372036854775807 : Int64)) / (((1048576 : Int64) - (0 : Int64)) + (1 : Int64))) * (((1048576 : Int64) - (0 : Int64)) + (1 : Int64))))), .second, .val (.ref b59)] [(.int (lcmpW ((0 : Int64) + ((i1 &&& (9223372036854775807 : Int64)) - ((i1 &&& (9223372036854775807 : Int64)) / (((1048576 : Int64) - (0 : Int64)) + (1 : Int64))) * (((1048576 : Int64) - (0 : Int64)) + (1 : Int64)))) (0 : Int64)))]))
        refine OGo.by (fun _ k => XS.ifNo X84.here hx rfl (hb hby at_208) rfl ((if0 _ _).trans (flt (mt (lw_lt _ _).mp (own_nlt (own_rng (hi := (1048576 : Int64)) 0 1048576 (by decide) (by decide) (by decide) (by decide) (by decide) (own_nn i1)).1 (by decide)))).1) k) ?_
        show OGo p e below _ (T84.setTop (mkF m 211 #[.val (.int i0), .val (.long i1), .second, .val (.int i2), .val (.int ((i0 &&& (2147483647 : Int32)) % (6 : Int32))), .val (.ref w_BODY), .val (.long (0 : Int64)), .second, .val (.long (1048576 : Int64)), .second, .val (.long ((0 : Int64) + ((i1 &&& (9223372036854775807 : Int64)) - ((i1 &&& (9223372036854775807 : Int64)) / (((1048576 : Int64) - (0 : Int64)) + (1 : Int64))) * (((1048576 : Int64) - (0 : Int64)) + (1 : Int64))))), .second, .val (.ref b59)] []))
        refine OGo.by (fun _ k => XS.lload X84.here hx rfl (hb hby at_211) rfl k) ?_
        show OGo p e below _ (T84.setTop (mkF m 213 #[.val (.int i0), .val (.long i1), .second, .val (.int i2), .val (.int ((i0 &&& (2147483647 : Int32)) % (6 : Int32))), .val (.ref w_BODY), .val (.long (0 : Int64)), .second, .val (.long (1048576 : Int64)), .second, .val (.long ((0 : Int64) + ((i1 &&& (9223372036854775807 : Int64)) - ((i1 &&& (9223372036854775807 : Int64)) / (((1048576 : Int64) - (0 : Int64)) + (1 : Int64))) * (((1048576 : Int64) - (0 : Int64)) + (1 : Int64))))), .second, .val (.ref b59)] [(.long ((0 : Int64) + ((i1 &&& (9223372036854775807 : Int64)) - ((i1 &&& (9223372036854775807 : Int64)) / (((1048576 : Int64) - (0 : Int64)) + (1 : Int64))) * (((1048576 : Int64) - (0 : Int64)) + (1 : Int64)))))]))
        refine OGo.by (fun _ k => XS.lload X84.here hx rfl (hb hby at_213) rfl k) ?_
        show OGo p e below _ (T84.setTop (mkF m 215 #[.val (.int i0), .val (.long i1), .second, .val (.int i2), .val (.int ((i0 &&& (2147483647 : Int32)) % (6 : Int32))), .val (.ref w_BODY), .val (.long (0 : Int64)), .second, .val (.long (1048576 : Int64)), .second, .val (.long ((0 : Int64) + ((i1 &&& (9223372036854775807 : Int64)) - ((i1 &&& (9223372036854775807 : Int64)) / (((1048576 : Int64) - (0 : Int64)) + (1 : Int64))) * (((1048576 : Int64) - (0 : Int64)) + (1 : Int64))))), .second, .val (.ref b59)] [(.long (1048576 : Int64)), (.long ((0 : Int64) + ((i1 &&& (9223372036854775807 : Int64)) - ((i1 &&& (9223372036854775807 : Int64)) / (((1048576 : Int64) - (0 : Int64)) + (1 : Int64))) * (((1048576 : Int64) - (0 : Int64)) + (1 : Int64)))))]))
        refine OGo.by (fun _ k => XS.lcmp X84.here hx rfl (hb hby at_215) rfl k) ?_
        show OGo p e below _ (T84.setTop (mkF m 216 #[.val (.int i0), .val (.long i1), .second, .val (.int i2), .val (.int ((i0 &&& (2147483647 : Int32)) % (6 : Int32))), .val (.ref w_BODY), .val (.long (0 : Int64)), .second, .val (.long (1048576 : Int64)), .second, .val (.long ((0 : Int64) + ((i1 &&& (9223372036854775807 : Int64)) - ((i1 &&& (9223372036854775807 : Int64)) / (((1048576 : Int64) - (0 : Int64)) + (1 : Int64))) * (((1048576 : Int64) - (0 : Int64)) + (1 : Int64))))), .second, .val (.ref b59)] [(.int (lcmpW ((0 : Int64) + ((i1 &&& (9223372036854775807 : Int64)) - ((i1 &&& (9223372036854775807 : Int64)) / (((1048576 : Int64) - (0 : Int64)) + (1 : Int64))) * (((1048576 : Int64) - (0 : Int64)) + (1 : Int64)))) (1048576 : Int64)))]))
        refine OGo.by (fun _ k => XS.ifNo X84.here hx rfl (hb hby at_216) rfl ((if0 _ _).trans (flt (mt (lw_gt _ _).mp (own_ngt (own_rng (hi := (1048576 : Int64)) 0 1048576 (by decide) (by decide) (by decide) (by decide) (by decide) (own_nn i1)).2 (by decide)))).2.2.1) k) ?_
        show OGo p e below _ (T84.setTop (mkF m 219 #[.val (.int i0), .val (.long i1), .second, .val (.int i2), .val (.int ((i0 &&& (2147483647 : Int32)) % (6 : Int32))), .val (.ref w_BODY), .val (.long (0 : Int64)), .second, .val (.long (1048576 : Int64)), .second, .val (.long ((0 : Int64) + ((i1 &&& (9223372036854775807 : Int64)) - ((i1 &&& (9223372036854775807 : Int64)) / (((1048576 : Int64) - (0 : Int64)) + (1 : Int64))) * (((1048576 : Int64) - (0 : Int64)) + (1 : Int64))))), .second, .val (.ref b59)] []))
        refine OGo.by (fun _ k => XS.iconst X84.here hx rfl (hb hby at_219) k) ?_
        show OGo p e below _ (T84.setTop (mkF m 220 #[.val (.int i0), .val (.long i1), .second, .val (.int i2), .val (.int ((i0 &&& (2147483647 : Int32)) % (6 : Int32))), .val (.ref w_BODY), .val (.long (0 : Int64)), .second, .val (.long (1048576 : Int64)), .second, .val (.long ((0 : Int64) + ((i1 &&& (9223372036854775807 : Int64)) - ((i1 &&& (9223372036854775807 : Int64)) / (((1048576 : Int64) - (0 : Int64)) + (1 : Int64))) * (((1048576 : Int64) - (0 : Int64)) + (1 : Int64))))), .second, .val (.ref b59)] [(.int (1 : Int32))]))
        refine OGo.by (fun _ k => XS.goto X84.here hx rfl (pc0 := 220) (pc' := 224) rfl (hb hby at_220) (by decide) (by decide) k) ?_
        show OGo p e below _ (T84.setTop (mkF m 224 #[.val (.int i0), .val (.long i1), .second, .val (.int i2), .val (.int ((i0 &&& (2147483647 : Int32)) % (6 : Int32))), .val (.ref w_BODY), .val (.long (0 : Int64)), .second, .val (.long (1048576 : Int64)), .second, .val (.long ((0 : Int64) + ((i1 &&& (9223372036854775807 : Int64)) - ((i1 &&& (9223372036854775807 : Int64)) / (((1048576 : Int64) - (0 : Int64)) + (1 : Int64))) * (((1048576 : Int64) - (0 : Int64)) + (1 : Int64))))), .second, .val (.ref b59)] [(.int (1 : Int32))]))
        obtain ⟨fs, hr, hrun, hended, hW, hsame⟩ := X84.leave (v := some (.int (1 : Int32))) (fun h => by rw [Bd.returns] at h; cases h)
        refine OGo.ret (retN X84 hx (t := .boolean) Bd.returns (by simp) (hb hby at_224) hr) hrun hended ⟨_, _, rfl, ?_, ⟨_, rfl⟩, hW, hsame.mono (by decide) (by decide)⟩
        show Q_rm0 Z i0 i1 i2 w_NAME w_TITLE w_BODY w_RECIPIENTS w_MEMBERS w_SUBSCRIBER_IDS cz h0 n0 _ T84.heap _
        rw [e84]
        exact ⟨rfl, N84⟩
      · refine OGo.by (fun _ k => XS.icmpYes X0.here hx rfl (pc0 := 55) (pc' := 74) rfl (hb hby at_55) rfl (feq hc55_57).2 (by decide) (by decide) k) ?_
        show OGo p e below _ (s₁.setTop (mkF m 74 #[.val (.int i0), .val (.long i1), .second, .val (.int i2), .val (.int ((i0 &&& (2147483647 : Int32)) % (6 : Int32))), .unset, .unset, .unset, .unset, .unset, .unset, .unset, .unset] []))
        refine OGo.by (fun _ k => XS.iload X0.here hx rfl (hb hby at_74) rfl k) ?_
        show OGo p e below _ (s₁.setTop (mkF m 76 #[.val (.int i0), .val (.long i1), .second, .val (.int i2), .val (.int ((i0 &&& (2147483647 : Int32)) % (6 : Int32))), .unset, .unset, .unset, .unset, .unset, .unset, .unset, .unset] [(.int ((i0 &&& (2147483647 : Int32)) % (6 : Int32)))]))
        refine OGo.by (fun _ k => XS.iconst X0.here hx rfl (hb hby at_76) k) ?_
        show OGo p e below _ (s₁.setTop (mkF m 77 #[.val (.int i0), .val (.long i1), .second, .val (.int i2), .val (.int ((i0 &&& (2147483647 : Int32)) % (6 : Int32))), .unset, .unset, .unset, .unset, .unset, .unset, .unset, .unset] [(.int (3 : Int32)), (.int ((i0 &&& (2147483647 : Int32)) % (6 : Int32)))]))
        by_cases hc77_85 : ((i0 &&& (2147483647 : Int32)) % (6 : Int32)) = (3 : Int32)
        · refine OGo.by (fun _ k => XS.icmpNo X0.here hx rfl (hb hby at_77) rfl (teq hc77_85).2 k) ?_
          show OGo p e below _ (s₁.setTop (mkF m 80 #[.val (.int i0), .val (.long i1), .second, .val (.int i2), .val (.int ((i0 &&& (2147483647 : Int32)) % (6 : Int32))), .unset, .unset, .unset, .unset, .unset, .unset, .unset, .unset] []))
          obtain ⟨T86, X86, e86, st86⟩ := getS2 X0 hx hZ hown (host := "") (Or.inl (hw _ (List.mem_of_getElem? (i := 61) rfl))) Via.refl e0 (S_RECIPIENTS.ext O0.2) (g := (mkF m 80 #[.val (.int i0), .val (.long i1), .second, .val (.int i2), .val (.int ((i0 &&& (2147483647 : Int32)) % (6 : Int32))), .unset, .unset, .unset, .unset, .unset, .unset, .unset, .unset] [])) rfl (hb hby at_80)
          refine OGo.by st86 ?_
          show OGo p e below _ (T86.setTop (mkF m 83 #[.val (.int i0), .val (.long i1), .second, .val (.int i2), .val (.int ((i0 &&& (2147483647 : Int32)) % (6 : Int32))), .unset, .unset, .unset, .unset, .unset, .unset, .unset, .unset] [(.ref w_RECIPIENTS)]))
          refine OGo.by (fun _ k => XS.astore X86.here hx rfl (hb hby at_83) rfl rfl (l' := #[.val (.int i0), .val (.long i1), .second, .val (.int i2), .val (.int ((i0 &&& (2147483647 : Int32)) % (6 : Int32))), .val (.ref w_RECIPIENTS), .unset, .unset, .unset, .unset, .unset, .unset, .unset]) rfl k) ?_
          show OGo p e below _ (T86.setTop (mkF m 85 #[.val (.int i0), .val (.long i1), .second, .val (.int i2), .val (.int ((i0 &&& (2147483647 : Int32)) % (6 : Int32))), .val (.ref w_RECIPIENTS), .unset, .unset, .unset, .unset, .unset, .unset, .unset] []))
          refine OGo.by (fun _ k => XS.lconst X86.here hx rfl (hb hby at_85) k) ?_
          show OGo p e below _ (T86.setTop (mkF m 86 #[.val (.int i0), .val (.long i1), .second, .val (.int i2), .val (.int ((i0 &&& (2147483647 : Int32)) % (6 : Int32))), .val (.ref w_RECIPIENTS), .unset, .unset, .unset, .unset, .unset, .unset, .unset] [(.long (1 : Int64))]))
          refine OGo.by (fun _ k => XS.lstore X86.here hx rfl (hb hby at_86) rfl (l' := #[.val (.int i0), .val (.long i1), .second, .val (.int i2), .val (.int ((i0 &&& (2147483647 : Int32)) % (6 : Int32))), .val (.ref w_RECIPIENTS), .val (.long (1 : Int64)), .second, .unset, .unset, .unset, .unset, .unset]) rfl k) ?_
          show OGo p e below _ (T86.setTop (mkF m 88 #[.val (.int i0), .val (.long i1), .second, .val (.int i2), .val (.int ((i0 &&& (2147483647 : Int32)) % (6 : Int32))), .val (.ref w_RECIPIENTS), .val (.long (1 : Int64)), .second, .unset, .unset, .unset, .unset, .unset] []))
          refine OGo.by (X86.ldc2Long hx hown (mvT hZ (hw _ (List.mem_of_getElem? (i := 60) rfl))) (g := (mkF m 88 #[.val (.int i0), .val (.long i1), .second, .val (.int i2), .val (.int ((i0 &&& (2147483647 : Int32)) % (6 : Int32))), .val (.ref w_RECIPIENTS), .val (.long (1 : Int64)), .second, .unset, .unset, .unset, .unset, .unset] [])) rfl (hb hby at_88)) ?_
          show OGo p e below _ (T86.setTop (mkF m 91 #[.val (.int i0), .val (.long i1), .second, .val (.int i2), .val (.int ((i0 &&& (2147483647 : Int32)) % (6 : Int32))), .val (.ref w_RECIPIENTS), .val (.long (1 : Int64)), .second, .unset, .unset, .unset, .unset, .unset] [(.long (1000 : Int64))]))
          refine OGo.by (fun _ k => XS.lstore X86.here hx rfl (hb hby at_91) rfl (l' := #[.val (.int i0), .val (.long i1), .second, .val (.int i2), .val (.int ((i0 &&& (2147483647 : Int32)) % (6 : Int32))), .val (.ref w_RECIPIENTS), .val (.long (1 : Int64)), .second, .val (.long (1000 : Int64)), .second, .unset, .unset, .unset]) rfl k) ?_
          show OGo p e below _ (T86.setTop (mkF m 93 #[.val (.int i0), .val (.long i1), .second, .val (.int i2), .val (.int ((i0 &&& (2147483647 : Int32)) % (6 : Int32))), .val (.ref w_RECIPIENTS), .val (.long (1 : Int64)), .second, .val (.long (1000 : Int64)), .second, .unset, .unset, .unset] []))
          refine OGo.by (fun _ k => XS.goto X86.here hx rfl (pc0 := 93) (pc' := 131) rfl (hb hby at_93) (by decide) (by decide) k) ?_
          show OGo p e below _ (T86.setTop (mkF m 131 #[.val (.int i0), .val (.long i1), .second, .val (.int i2), .val (.int ((i0 &&& (2147483647 : Int32)) % (6 : Int32))), .val (.ref w_RECIPIENTS), .val (.long (1 : Int64)), .second, .val (.long (1000 : Int64)), .second, .unset, .unset, .unset] []))
          refine OGo.by (fun _ k => XS.lload X86.here hx rfl (hb hby at_131) rfl k) ?_
          show OGo p e below _ (T86.setTop (mkF m 133 #[.val (.int i0), .val (.long i1), .second, .val (.int i2), .val (.int ((i0 &&& (2147483647 : Int32)) % (6 : Int32))), .val (.ref w_RECIPIENTS), .val (.long (1 : Int64)), .second, .val (.long (1000 : Int64)), .second, .unset, .unset, .unset] [(.long (1 : Int64))]))
          refine OGo.by (fun _ k => XS.lloadN X86.here hx rfl (hb hby at_133) rfl k) ?_
          show OGo p e below _ (T86.setTop (mkF m 134 #[.val (.int i0), .val (.long i1), .second, .val (.int i2), .val (.int ((i0 &&& (2147483647 : Int32)) % (6 : Int32))), .val (.ref w_RECIPIENTS), .val (.long (1 : Int64)), .second, .val (.long (1000 : Int64)), .second, .unset, .unset, .unset] [(.long i1), (.long (1 : Int64))]))
          refine OGo.by (X86.ldc2Long hx hown (mvT hZ (hw _ (List.mem_of_getElem? (i := 5) rfl))) (g := (mkF m 134 #[.val (.int i0), .val (.long i1), .second, .val (.int i2), .val (.int ((i0 &&& (2147483647 : Int32)) % (6 : Int32))), .val (.ref w_RECIPIENTS), .val (.long (1 : Int64)), .second, .val (.long (1000 : Int64)), .second, .unset, .unset, .unset] [(.long i1), (.long (1 : Int64))])) rfl (hb hby at_134)) ?_
          show OGo p e below _ (T86.setTop (mkF m 137 #[.val (.int i0), .val (.long i1), .second, .val (.int i2), .val (.int ((i0 &&& (2147483647 : Int32)) % (6 : Int32))), .val (.ref w_RECIPIENTS), .val (.long (1 : Int64)), .second, .val (.long (1000 : Int64)), .second, .unset, .unset, .unset] [(.long (9223372036854775807 : Int64)), (.long i1), (.long (1 : Int64))]))
          refine OGo.by (fun _ k => XS.land X86.here hx rfl (hb hby at_137) rfl k) ?_
          show OGo p e below _ (T86.setTop (mkF m 138 #[.val (.int i0), .val (.long i1), .second, .val (.int i2), .val (.int ((i0 &&& (2147483647 : Int32)) % (6 : Int32))), .val (.ref w_RECIPIENTS), .val (.long (1 : Int64)), .second, .val (.long (1000 : Int64)), .second, .unset, .unset, .unset] [(.long (i1 &&& (9223372036854775807 : Int64))), (.long (1 : Int64))]))
          refine OGo.by (fun _ k => XS.lload X86.here hx rfl (hb hby at_138) rfl k) ?_
          show OGo p e below _ (T86.setTop (mkF m 140 #[.val (.int i0), .val (.long i1), .second, .val (.int i2), .val (.int ((i0 &&& (2147483647 : Int32)) % (6 : Int32))), .val (.ref w_RECIPIENTS), .val (.long (1 : Int64)), .second, .val (.long (1000 : Int64)), .second, .unset, .unset, .unset] [(.long (1000 : Int64)), (.long (i1 &&& (9223372036854775807 : Int64))), (.long (1 : Int64))]))
          refine OGo.by (fun _ k => XS.lload X86.here hx rfl (hb hby at_140) rfl k) ?_
          show OGo p e below _ (T86.setTop (mkF m 142 #[.val (.int i0), .val (.long i1), .second, .val (.int i2), .val (.int ((i0 &&& (2147483647 : Int32)) % (6 : Int32))), .val (.ref w_RECIPIENTS), .val (.long (1 : Int64)), .second, .val (.long (1000 : Int64)), .second, .unset, .unset, .unset] [(.long (1 : Int64)), (.long (1000 : Int64)), (.long (i1 &&& (9223372036854775807 : Int64))), (.long (1 : Int64))]))
          refine OGo.by (fun _ k => XS.lsub X86.here hx rfl (hb hby at_142) rfl k) ?_
          show OGo p e below _ (T86.setTop (mkF m 143 #[.val (.int i0), .val (.long i1), .second, .val (.int i2), .val (.int ((i0 &&& (2147483647 : Int32)) % (6 : Int32))), .val (.ref w_RECIPIENTS), .val (.long (1 : Int64)), .second, .val (.long (1000 : Int64)), .second, .unset, .unset, .unset] [(.long ((1000 : Int64) - (1 : Int64))), (.long (i1 &&& (9223372036854775807 : Int64))), (.long (1 : Int64))]))
          refine OGo.by (fun _ k => XS.lconst X86.here hx rfl (hb hby at_143) k) ?_
          show OGo p e below _ (T86.setTop (mkF m 144 #[.val (.int i0), .val (.long i1), .second, .val (.int i2), .val (.int ((i0 &&& (2147483647 : Int32)) % (6 : Int32))), .val (.ref w_RECIPIENTS), .val (.long (1 : Int64)), .second, .val (.long (1000 : Int64)), .second, .unset, .unset, .unset] [(.long (1 : Int64)), (.long ((1000 : Int64) - (1 : Int64))), (.long (i1 &&& (9223372036854775807 : Int64))), (.long (1 : Int64))]))
          refine OGo.by (fun _ k => XS.ladd X86.here hx rfl (hb hby at_144) rfl k) ?_
          show OGo p e below _ (T86.setTop (mkF m 145 #[.val (.int i0), .val (.long i1), .second, .val (.int i2), .val (.int ((i0 &&& (2147483647 : Int32)) % (6 : Int32))), .val (.ref w_RECIPIENTS), .val (.long (1 : Int64)), .second, .val (.long (1000 : Int64)), .second, .unset, .unset, .unset] [(.long (((1000 : Int64) - (1 : Int64)) + (1 : Int64))), (.long (i1 &&& (9223372036854775807 : Int64))), (.long (1 : Int64))]))
          refine OGo.by (fun _ k => XS.lrem X86.here hx rfl (hb hby at_145) rfl (by decide) k) ?_
          show OGo p e below _ (T86.setTop (mkF m 146 #[.val (.int i0), .val (.long i1), .second, .val (.int i2), .val (.int ((i0 &&& (2147483647 : Int32)) % (6 : Int32))), .val (.ref w_RECIPIENTS), .val (.long (1 : Int64)), .second, .val (.long (1000 : Int64)), .second, .unset, .unset, .unset] [(.long ((i1 &&& (9223372036854775807 : Int64)) - ((i1 &&& (9223372036854775807 : Int64)) / (((1000 : Int64) - (1 : Int64)) + (1 : Int64))) * (((1000 : Int64) - (1 : Int64)) + (1 : Int64)))), (.long (1 : Int64))]))
          refine OGo.by (fun _ k => XS.ladd X86.here hx rfl (hb hby at_146) rfl k) ?_
          show OGo p e below _ (T86.setTop (mkF m 147 #[.val (.int i0), .val (.long i1), .second, .val (.int i2), .val (.int ((i0 &&& (2147483647 : Int32)) % (6 : Int32))), .val (.ref w_RECIPIENTS), .val (.long (1 : Int64)), .second, .val (.long (1000 : Int64)), .second, .unset, .unset, .unset] [(.long ((1 : Int64) + ((i1 &&& (9223372036854775807 : Int64)) - ((i1 &&& (9223372036854775807 : Int64)) / (((1000 : Int64) - (1 : Int64)) + (1 : Int64))) * (((1000 : Int64) - (1 : Int64)) + (1 : Int64)))))]))
          refine OGo.by (fun _ k => XS.lstore X86.here hx rfl (hb hby at_147) rfl (l' := #[.val (.int i0), .val (.long i1), .second, .val (.int i2), .val (.int ((i0 &&& (2147483647 : Int32)) % (6 : Int32))), .val (.ref w_RECIPIENTS), .val (.long (1 : Int64)), .second, .val (.long (1000 : Int64)), .second, .val (.long ((1 : Int64) + ((i1 &&& (9223372036854775807 : Int64)) - ((i1 &&& (9223372036854775807 : Int64)) / (((1000 : Int64) - (1 : Int64)) + (1 : Int64))) * (((1000 : Int64) - (1 : Int64)) + (1 : Int64))))), .second, .unset]) rfl k) ?_
          show OGo p e below _ (T86.setTop (mkF m 149 #[.val (.int i0), .val (.long i1), .second, .val (.int i2), .val (.int ((i0 &&& (2147483647 : Int32)) % (6 : Int32))), .val (.ref w_RECIPIENTS), .val (.long (1 : Int64)), .second, .val (.long (1000 : Int64)), .second, .val (.long ((1 : Int64) + ((i1 &&& (9223372036854775807 : Int64)) - ((i1 &&& (9223372036854775807 : Int64)) / (((1000 : Int64) - (1 : Int64)) + (1 : Int64))) * (((1000 : Int64) - (1 : Int64)) + (1 : Int64))))), .second, .unset] []))
          obtain ⟨T87, h87, X87, e87, E87, A87, D87, U87, st87⟩ := newO X86 hx hZ hown (hw _ (List.mem_of_getElem? (i := 6) rfl)) (hw _ (List.mem_of_getElem? (i := 7) rfl)) (hw _ (List.mem_of_getElem? (i := 8) rfl)) e86 (g := (mkF m 149 #[.val (.int i0), .val (.long i1), .second, .val (.int i2), .val (.int ((i0 &&& (2147483647 : Int32)) % (6 : Int32))), .val (.ref w_RECIPIENTS), .val (.long (1 : Int64)), .second, .val (.long (1000 : Int64)), .second, .val (.long ((1 : Int64) + ((i1 &&& (9223372036854775807 : Int64)) - ((i1 &&& (9223372036854775807 : Int64)) / (((1000 : Int64) - (1 : Int64)) + (1 : Int64))) * (((1000 : Int64) - (1 : Int64)) + (1 : Int64))))), .second, .unset] [])) rfl (hb hby at_149) (by decide) (by decide)
          obtain ⟨b87, g87⟩ : ∃ z, z = h0.size := ⟨_, rfl⟩
          rw [← g87] at A87 D87 U87 st87
          have ne_w_NAME_b87 : w_NAME ≠ b87 := Nat.ne_of_lt (Nat.lt_of_lt_of_le E_NAME.lt (Nat.le_of_eq g87.symm))
          have ne_w_TITLE_b87 : w_TITLE ≠ b87 := Nat.ne_of_lt (Nat.lt_of_lt_of_le E_TITLE.lt (Nat.le_of_eq g87.symm))
          have ne_w_BODY_b87 : w_BODY ≠ b87 := Nat.ne_of_lt (Nat.lt_of_lt_of_le E_BODY.lt (Nat.le_of_eq g87.symm))
          have ne_w_RECIPIENTS_b87 : w_RECIPIENTS ≠ b87 := Nat.ne_of_lt (Nat.lt_of_lt_of_le E_RECIPIENTS.lt (Nat.le_of_eq g87.symm))
          have ne_w_MEMBERS_b87 : w_MEMBERS ≠ b87 := Nat.ne_of_lt (Nat.lt_of_lt_of_le E_MEMBERS.lt (Nat.le_of_eq g87.symm))
          have ne_w_SUBSCRIBER_IDS_b87 : w_SUBSCRIBER_IDS ≠ b87 := Nat.ne_of_lt (Nat.lt_of_lt_of_le E_SUBSCRIBER_IDS.lt (Nat.le_of_eq g87.symm))
          have g_b87 : n0 ≤ b87 := Nat.le_trans Z0 (Nat.le_of_eq g87.symm)
          have sz_b87 : h0.size ≤ b87 := Nat.le_trans (Nat.le_refl _) (Nat.le_of_eq g87.symm)
          refine OGo.by st87 ?_
          have K87 : Keep h0 h87 [] := ((Keep.refl h0 [])).ext E87
          have F87_coder : Fld Z h87 b87 "java/lang/String" "coder" "B" (.int (0 : Int32)) := D87 (Or.inr (hw _ (List.mem_of_getElem? (i := 33) rfl))) (ty := .byte) (by decide)
          have F87_value : Fld Z h87 b87 "java/lang/String" "value" "[B" .null := D87 (Or.inr (hw _ (List.mem_of_getElem? (i := 35) rfl))) (ty := (.array .byte)) (by decide)
          show OGo p e below _ (T87.setTop (mkF m 152 #[.val (.int i0), .val (.long i1), .second, .val (.int i2), .val (.int ((i0 &&& (2147483647 : Int32)) % (6 : Int32))), .val (.ref w_RECIPIENTS), .val (.long (1 : Int64)), .second, .val (.long (1000 : Int64)), .second, .val (.long ((1 : Int64) + ((i1 &&& (9223372036854775807 : Int64)) - ((i1 &&& (9223372036854775807 : Int64)) / (((1000 : Int64) - (1 : Int64)) + (1 : Int64))) * (((1000 : Int64) - (1 : Int64)) + (1 : Int64))))), .second, .unset] [(.ref b87)]))
          refine OGo.by (fun _ k => XS.dup X87.here hx rfl (hb hby at_152) rfl rfl k) ?_
          show OGo p e below _ (T87.setTop (mkF m 153 #[.val (.int i0), .val (.long i1), .second, .val (.int i2), .val (.int ((i0 &&& (2147483647 : Int32)) % (6 : Int32))), .val (.ref w_RECIPIENTS), .val (.long (1 : Int64)), .second, .val (.long (1000 : Int64)), .second, .val (.long ((1 : Int64) + ((i1 &&& (9223372036854775807 : Int64)) - ((i1 &&& (9223372036854775807 : Int64)) / (((1000 : Int64) - (1 : Int64)) + (1 : Int64))) * (((1000 : Int64) - (1 : Int64)) + (1 : Int64))))), .second, .unset] [(.ref b87), (.ref b87)]))
          refine OGo.by (fun _ k => XS.iconst X87.here hx rfl (hb hby at_153) k) ?_
          show OGo p e below _ (T87.setTop (mkF m 154 #[.val (.int i0), .val (.long i1), .second, .val (.int i2), .val (.int ((i0 &&& (2147483647 : Int32)) % (6 : Int32))), .val (.ref w_RECIPIENTS), .val (.long (1 : Int64)), .second, .val (.long (1000 : Int64)), .second, .val (.long ((1 : Int64) + ((i1 &&& (9223372036854775807 : Int64)) - ((i1 &&& (9223372036854775807 : Int64)) / (((1000 : Int64) - (1 : Int64)) + (1 : Int64))) * (((1000 : Int64) - (1 : Int64)) + (1 : Int64))))), .second, .unset] [(.int (1 : Int32)), (.ref b87), (.ref b87)]))
          obtain ⟨T88, h88, k88, X88, e88, E88, A88, st88⟩ := newP X87 hx hZ (hw _ (List.mem_of_getElem? (i := 9) rfl)) e87 (g := (mkF m 154 #[.val (.int i0), .val (.long i1), .second, .val (.int i2), .val (.int ((i0 &&& (2147483647 : Int32)) % (6 : Int32))), .val (.ref w_RECIPIENTS), .val (.long (1 : Int64)), .second, .val (.long (1000 : Int64)), .second, .val (.long ((1 : Int64) + ((i1 &&& (9223372036854775807 : Int64)) - ((i1 &&& (9223372036854775807 : Int64)) / (((1000 : Int64) - (1 : Int64)) + (1 : Int64))) * (((1000 : Int64) - (1 : Int64)) + (1 : Int64))))), .second, .unset] [(.int (1 : Int32)), (.ref b87), (.ref b87)])) rfl (hb hby at_154) rfl (by decide : ¬ ((1 : Int32) < (0 : Int32))) (cap := 1) (by decide) (by decide) (by decide) (by decide)
          obtain ⟨b88, g88⟩ : ∃ z, z = h87.size := ⟨_, rfl⟩
          rw [← g88] at A88 st88
          have f89 : Exa Z h87 w_NAME "com/example/kept_inbox/keptinbox/Limit" := (E_NAME.ext E87)
          have ne_w_NAME_b88 : w_NAME ≠ b88 := Nat.ne_of_lt (Nat.lt_of_lt_of_le f89.lt (Nat.le_of_eq g88.symm))
          have f90 : Exa Z h87 w_TITLE "com/example/kept_inbox/keptinbox/Limit" := (E_TITLE.ext E87)
          have ne_w_TITLE_b88 : w_TITLE ≠ b88 := Nat.ne_of_lt (Nat.lt_of_lt_of_le f90.lt (Nat.le_of_eq g88.symm))
          have f91 : Exa Z h87 w_BODY "com/example/kept_inbox/keptinbox/Limit" := (E_BODY.ext E87)
          have ne_w_BODY_b88 : w_BODY ≠ b88 := Nat.ne_of_lt (Nat.lt_of_lt_of_le f91.lt (Nat.le_of_eq g88.symm))
          have f92 : Exa Z h87 w_RECIPIENTS "com/example/kept_inbox/keptinbox/Limit" := (E_RECIPIENTS.ext E87)
          have ne_w_RECIPIENTS_b88 : w_RECIPIENTS ≠ b88 := Nat.ne_of_lt (Nat.lt_of_lt_of_le f92.lt (Nat.le_of_eq g88.symm))
          have f93 : Exa Z h87 w_MEMBERS "com/example/kept_inbox/keptinbox/Limit" := (E_MEMBERS.ext E87)
          have ne_w_MEMBERS_b88 : w_MEMBERS ≠ b88 := Nat.ne_of_lt (Nat.lt_of_lt_of_le f93.lt (Nat.le_of_eq g88.symm))
          have f94 : Exa Z h87 w_SUBSCRIBER_IDS "com/example/kept_inbox/keptinbox/Limit" := (E_SUBSCRIBER_IDS.ext E87)
          have ne_w_SUBSCRIBER_IDS_b88 : w_SUBSCRIBER_IDS ≠ b88 := Nat.ne_of_lt (Nat.lt_of_lt_of_le f94.lt (Nat.le_of_eq g88.symm))
          have ne_b87_b88 : b87 ≠ b88 := Nat.ne_of_lt (Nat.lt_of_lt_of_le A87.lt (Nat.le_of_eq g88.symm))
          have g_b88 : n0 ≤ b88 := Nat.le_trans (Nat.le_trans Z0 K87.1) (Nat.le_of_eq g88.symm)
          have sz_b88 : h0.size ≤ b88 := Nat.le_trans K87.1 (Nat.le_of_eq g88.symm)
          refine OGo.by st88 ?_
          have K88 : Keep h0 h88 [] := (K87).ext E88
          have V88 : Arv Z h88 b88 k88 .char (1 : Int32) [(.int (0 : Int32))] (.int (0 : Int32)) := (Arv.new A88 (by decide)).pad (pad_rep [] (.int (0 : Int32)) 1)
          show OGo p e below _ (T88.setTop (mkF m 156 #[.val (.int i0), .val (.long i1), .second, .val (.int i2), .val (.int ((i0 &&& (2147483647 : Int32)) % (6 : Int32))), .val (.ref w_RECIPIENTS), .val (.long (1 : Int64)), .second, .val (.long (1000 : Int64)), .second, .val (.long ((1 : Int64) + ((i1 &&& (9223372036854775807 : Int64)) - ((i1 &&& (9223372036854775807 : Int64)) / (((1000 : Int64) - (1 : Int64)) + (1 : Int64))) * (((1000 : Int64) - (1 : Int64)) + (1 : Int64))))), .second, .unset] [(.ref b88), (.ref b87), (.ref b87)]))
          refine OGo.by (fun _ k => XS.dup X88.here hx rfl (hb hby at_156) rfl rfl k) ?_
          show OGo p e below _ (T88.setTop (mkF m 157 #[.val (.int i0), .val (.long i1), .second, .val (.int i2), .val (.int ((i0 &&& (2147483647 : Int32)) % (6 : Int32))), .val (.ref w_RECIPIENTS), .val (.long (1 : Int64)), .second, .val (.long (1000 : Int64)), .second, .val (.long ((1 : Int64) + ((i1 &&& (9223372036854775807 : Int64)) - ((i1 &&& (9223372036854775807 : Int64)) / (((1000 : Int64) - (1 : Int64)) + (1 : Int64))) * (((1000 : Int64) - (1 : Int64)) + (1 : Int64))))), .second, .unset] [(.ref b88), (.ref b88), (.ref b87), (.ref b87)]))
          refine OGo.by (fun _ k => XS.iconst X88.here hx rfl (hb hby at_157) k) ?_
          show OGo p e below _ (T88.setTop (mkF m 158 #[.val (.int i0), .val (.long i1), .second, .val (.int i2), .val (.int ((i0 &&& (2147483647 : Int32)) % (6 : Int32))), .val (.ref w_RECIPIENTS), .val (.long (1 : Int64)), .second, .val (.long (1000 : Int64)), .second, .val (.long ((1 : Int64) + ((i1 &&& (9223372036854775807 : Int64)) - ((i1 &&& (9223372036854775807 : Int64)) / (((1000 : Int64) - (1 : Int64)) + (1 : Int64))) * (((1000 : Int64) - (1 : Int64)) + (1 : Int64))))), .second, .unset] [(.int (0 : Int32)), (.ref b88), (.ref b88), (.ref b87), (.ref b87)]))
          refine OGo.by (fun _ k => XS.iloadN X88.here hx rfl (hb hby at_158) rfl k) ?_
          show OGo p e below _ (T88.setTop (mkF m 159 #[.val (.int i0), .val (.long i1), .second, .val (.int i2), .val (.int ((i0 &&& (2147483647 : Int32)) % (6 : Int32))), .val (.ref w_RECIPIENTS), .val (.long (1 : Int64)), .second, .val (.long (1000 : Int64)), .second, .val (.long ((1 : Int64) + ((i1 &&& (9223372036854775807 : Int64)) - ((i1 &&& (9223372036854775807 : Int64)) / (((1000 : Int64) - (1 : Int64)) + (1 : Int64))) * (((1000 : Int64) - (1 : Int64)) + (1 : Int64))))), .second, .unset] [(.int i2), (.int (0 : Int32)), (.ref b88), (.ref b88), (.ref b87), (.ref b87)]))
          refine OGo.by (fun _ k => XS.sipush X88.here hx rfl (hb hby at_159) k) ?_
          show OGo p e below _ (T88.setTop (mkF m 162 #[.val (.int i0), .val (.long i1), .second, .val (.int i2), .val (.int ((i0 &&& (2147483647 : Int32)) % (6 : Int32))), .val (.ref w_RECIPIENTS), .val (.long (1 : Int64)), .second, .val (.long (1000 : Int64)), .second, .val (.long ((1 : Int64) + ((i1 &&& (9223372036854775807 : Int64)) - ((i1 &&& (9223372036854775807 : Int64)) / (((1000 : Int64) - (1 : Int64)) + (1 : Int64))) * (((1000 : Int64) - (1 : Int64)) + (1 : Int64))))), .second, .unset] [(.int (255 : Int32)), (.int i2), (.int (0 : Int32)), (.ref b88), (.ref b88), (.ref b87), (.ref b87)]))
          refine OGo.by (fun _ k => XS.iand X88.here hx rfl (hb hby at_162) rfl k) ?_
          show OGo p e below _ (T88.setTop (mkF m 163 #[.val (.int i0), .val (.long i1), .second, .val (.int i2), .val (.int ((i0 &&& (2147483647 : Int32)) % (6 : Int32))), .val (.ref w_RECIPIENTS), .val (.long (1 : Int64)), .second, .val (.long (1000 : Int64)), .second, .val (.long ((1 : Int64) + ((i1 &&& (9223372036854775807 : Int64)) - ((i1 &&& (9223372036854775807 : Int64)) / (((1000 : Int64) - (1 : Int64)) + (1 : Int64))) * (((1000 : Int64) - (1 : Int64)) + (1 : Int64))))), .second, .unset] [(.int (i2 &&& (255 : Int32))), (.int (0 : Int32)), (.ref b88), (.ref b88), (.ref b87), (.ref b87)]))
          refine OGo.by (fun _ k => XS.i2c X88.here hx rfl (hb hby at_163) rfl k) ?_
          show OGo p e below _ (T88.setTop (mkF m 164 #[.val (.int i0), .val (.long i1), .second, .val (.int i2), .val (.int ((i0 &&& (2147483647 : Int32)) % (6 : Int32))), .val (.ref w_RECIPIENTS), .val (.long (1 : Int64)), .second, .val (.long (1000 : Int64)), .second, .val (.long ((1 : Int64) + ((i1 &&& (9223372036854775807 : Int64)) - ((i1 &&& (9223372036854775807 : Int64)) / (((1000 : Int64) - (1 : Int64)) + (1 : Int64))) * (((1000 : Int64) - (1 : Int64)) + (1 : Int64))))), .second, .unset] [(.int ((i2 &&& (255 : Int32)).toUInt32.toUInt16.toUInt32.toInt32)), (.int (0 : Int32)), (.ref b88), (.ref b88), (.ref b87), (.ref b87)]))
          obtain ⟨cl95, Ar95, q95, S95, M95, Hs95, G95⟩ := id V88
          obtain ⟨T95, h95, X95, e95, W95, st95⟩ := stC X88 hx hZ e88 Ar95 (j := (0 : Int32)) (inb_of S95 ⟨(by decide), (by decide)⟩) (g := (mkF m 164 #[.val (.int i0), .val (.long i1), .second, .val (.int i2), .val (.int ((i0 &&& (2147483647 : Int32)) % (6 : Int32))), .val (.ref w_RECIPIENTS), .val (.long (1 : Int64)), .second, .val (.long (1000 : Int64)), .second, .val (.long ((1 : Int64) + ((i1 &&& (9223372036854775807 : Int64)) - ((i1 &&& (9223372036854775807 : Int64)) / (((1000 : Int64) - (1 : Int64)) + (1 : Int64))) * (((1000 : Int64) - (1 : Int64)) + (1 : Int64))))), .second, .unset] [(.int ((i2 &&& (255 : Int32)).toUInt32.toUInt16.toUInt32.toInt32)), (.int (0 : Int32)), (.ref b88), (.ref b88), (.ref b87), (.ref b87)])) rfl rfl (hb hby at_164)
          refine OGo.by st95 ?_
          have N95 := Fr.snoc X95 N0 g_b88
          have K95 : Keep h0 h95 [] := (K88).wr W95 (Or.inr sz_b88)
          have V95 : Arv Z h95 b88 k88 .char (1 : Int32) [(.int (nar .char ((i2 &&& (255 : Int32)).toUInt32.toUInt16.toUInt32.toInt32)))] (.int (0 : Int32)) := Arv.set Ar95 q95 S95 M95 Hs95 G95 (fits_nar_char _) W95 0 rfl (Nat.le_of_ble_eq_true rfl)
          show OGo p e below _ (T95.setTop (mkF m 165 #[.val (.int i0), .val (.long i1), .second, .val (.int i2), .val (.int ((i0 &&& (2147483647 : Int32)) % (6 : Int32))), .val (.ref w_RECIPIENTS), .val (.long (1 : Int64)), .second, .val (.long (1000 : Int64)), .second, .val (.long ((1 : Int64) + ((i1 &&& (9223372036854775807 : Int64)) - ((i1 &&& (9223372036854775807 : Int64)) / (((1000 : Int64) - (1 : Int64)) + (1 : Int64))) * (((1000 : Int64) - (1 : Int64)) + (1 : Int64))))), .second, .unset] [(.ref b88), (.ref b87), (.ref b87)]))
          have f97 : Exa Z h95 b87 "java/lang/String" := ((A87.ext E88).wr W95)
          have f98 : Fld Z h95 b87 "java/lang/String" "value" "[B" .null := ((F87_value.ext E88).other W95 (Or.inl ne_b87_b88))
          have f99 : Fld Z h95 b87 "java/lang/String" "coder" "B" (.int (0 : Int32)) := ((F87_coder.ext E88).other W95 (Or.inl ne_b87_b88))
          have f100 : Old Z n0 h95 := (((O0.ext E87).ext E88).wr W95 g_b88)
          have hp96 : ∀ c ∈ ([(nar .char ((i2 &&& (255 : Int32)).toUInt32.toUInt16.toUInt32.toInt32))] : List Int32), ¬ c < 0 ∧ ¬ (255 : Int32) < c := by
            intro c hc; simp only [List.mem_cons, List.not_mem_nil, or_false] at hc
            subst hc; exact and255_chars i2
          have hws96 : ∀ d ∈ StrChars.Road.words, d.before av0 Z = true := fun d hd => hw d ((by decide +kernel : ∀ d ∈ StrChars.Road.words, d ∈ tables_1) d hd)
          obtain ⟨_, _, ⟨T96, L96, k96, n96⟩, -, X96, ⟨Lc96, hQ96, l96, y96, z96⟩, st96⟩ := X95.specialBack hx (y := (⟨"java/lang/String", "<init>", "([C)V"⟩ : MethodName)) rfl hown (mvT hZ (hw _ (List.mem_of_getElem? (i := 10) rfl))) (mvT hZ (hw _ (List.mem_of_getElem? (i := 11) rfl))) (mvT hZ (hw _ (List.mem_of_getElem? (i := 12) rfl))) (by decide) (StrChars.Road.backV (W := 1) hZ hws96 (kI := 4) (hw _ (List.mem_of_getElem? (i := 7) rfl)) (cs := ([(nar .char ((i2 &&& (255 : Int32)).toUInt32.toUInt16.toUInt32.toInt32))] : List Int32)) (bs := ([(nar .char ((i2 &&& (255 : Int32)).toUInt32.toUInt16.toUInt32.toInt32))] : List Int32).map (fun c => c.toInt8.toInt32)) (n := 1) g_b87 (Nat.le_trans Z0 K95.1) f97 f98 f99 V95 (S1.ext f100.2) hcz rfl rfl (by decide) (by decide) hp96 rfl (by decide) (by decide)) (g := (mkF m 165 #[.val (.int i0), .val (.long i1), .second, .val (.int i2), .val (.int ((i0 &&& (2147483647 : Int32)) % (6 : Int32))), .val (.ref w_RECIPIENTS), .val (.long (1 : Int64)), .second, .val (.long (1000 : Int64)), .second, .val (.long ((1 : Int64) + ((i1 &&& (9223372036854775807 : Int64)) - ((i1 &&& (9223372036854775807 : Int64)) / (((1000 : Int64) - (1 : Int64)) + (1 : Int64))) * (((1000 : Int64) - (1 : Int64)) + (1 : Int64))))), .second, .unset] [(.ref b88), (.ref b87), (.ref b87)])) rfl (by rw [hml]; rfl) (Steps.refl _) (a := b87) (argsL := [(.ref b88)]) (rest := [(.ref b87)]) (lenOf own_pd0 rfl) rfl (by show 2 * 0 + _ ≤ _; exact Nat.le_of_eq rfl) (hb hby at_165) (fun _ _ => ⟨rfl, e95, (by decide : 2 + 1 ≤ _), (by decide : 5 + 1 ≤ _)⟩)
          dsimp only [Pt.U, Pt.locs, Pt.cells, Pt.slots] at X96 l96 y96 z96 st96 hQ96
          subst l96 y96 z96
          obtain ⟨rfl, N96q, Kc96, GE96, GC96, t96, kb96, gt96, ge96, ne_t96_b87, GV96, GA96⟩ := hQ96
          have N96 := Fr.app N95 N96q
          have f101 : Exa Z h95 w_NAME "com/example/kept_inbox/keptinbox/Limit" := ((f89.ext E88).wr W95)
          have ne_w_NAME_t96 : w_NAME ≠ t96 := Nat.ne_of_lt (Nat.lt_of_lt_of_le f101.lt ge96)
          have f102 : Exa Z h95 w_TITLE "com/example/kept_inbox/keptinbox/Limit" := ((f90.ext E88).wr W95)
          have ne_w_TITLE_t96 : w_TITLE ≠ t96 := Nat.ne_of_lt (Nat.lt_of_lt_of_le f102.lt ge96)
          have f103 : Exa Z h95 w_BODY "com/example/kept_inbox/keptinbox/Limit" := ((f91.ext E88).wr W95)
          have ne_w_BODY_t96 : w_BODY ≠ t96 := Nat.ne_of_lt (Nat.lt_of_lt_of_le f103.lt ge96)
          have f104 : Exa Z h95 w_RECIPIENTS "com/example/kept_inbox/keptinbox/Limit" := ((f92.ext E88).wr W95)
          have ne_w_RECIPIENTS_t96 : w_RECIPIENTS ≠ t96 := Nat.ne_of_lt (Nat.lt_of_lt_of_le f104.lt ge96)
          have f105 : Exa Z h95 w_MEMBERS "com/example/kept_inbox/keptinbox/Limit" := ((f93.ext E88).wr W95)
          have ne_w_MEMBERS_t96 : w_MEMBERS ≠ t96 := Nat.ne_of_lt (Nat.lt_of_lt_of_le f105.lt ge96)
          have f106 : Exa Z h95 w_SUBSCRIBER_IDS "com/example/kept_inbox/keptinbox/Limit" := ((f94.ext E88).wr W95)
          have ne_w_SUBSCRIBER_IDS_t96 : w_SUBSCRIBER_IDS ≠ t96 := Nat.ne_of_lt (Nat.lt_of_lt_of_le f106.lt ge96)
          have ne_b87_t96 : b87 ≠ t96 := Nat.ne_of_lt (Nat.lt_of_lt_of_le f97.lt ge96)
          have ne_b88_t96 : b88 ≠ t96 := Nat.ne_of_lt (Nat.lt_of_lt_of_le V95.lt ge96)
          have g_t96 : n0 ≤ t96 := Nat.le_trans (Nat.le_trans Z0 K95.1) ge96
          have sz_t96 : h0.size ≤ t96 := Nat.le_trans K95.1 ge96
          have K96 : Keep h0 T96.heap [] := (K95).trans Kc96 (fun x hx => by simp only [List.mem_cons, List.not_mem_nil, or_false] at hx; subst hx; exact Or.inr sz_b87)
          refine OGo.of st96 ?_
          show OGo p e below _ (T96.setTop (mkF m 168 #[.val (.int i0), .val (.long i1), .second, .val (.int i2), .val (.int ((i0 &&& (2147483647 : Int32)) % (6 : Int32))), .val (.ref w_RECIPIENTS), .val (.long (1 : Int64)), .second, .val (.long (1000 : Int64)), .second, .val (.long ((1 : Int64) + ((i1 &&& (9223372036854775807 : Int64)) - ((i1 &&& (9223372036854775807 : Int64)) / (((1000 : Int64) - (1 : Int64)) + (1 : Int64))) * (((1000 : Int64) - (1 : Int64)) + (1 : Int64))))), .second, .unset] [(.ref b87)]))
          refine OGo.by (fun _ k => XS.astore X96.here hx rfl (hb hby at_168) rfl rfl (l' := #[.val (.int i0), .val (.long i1), .second, .val (.int i2), .val (.int ((i0 &&& (2147483647 : Int32)) % (6 : Int32))), .val (.ref w_RECIPIENTS), .val (.long (1 : Int64)), .second, .val (.long (1000 : Int64)), .second, .val (.long ((1 : Int64) + ((i1 &&& (9223372036854775807 : Int64)) - ((i1 &&& (9223372036854775807 : Int64)) / (((1000 : Int64) - (1 : Int64)) + (1 : Int64))) * (((1000 : Int64) - (1 : Int64)) + (1 : Int64))))), .second, .val (.ref b87)]) rfl k) ?_
          show OGo p e below _ (T96.setTop (mkF m 170 #[.val (.int i0), .val (.long i1), .second, .val (.int i2), .val (.int ((i0 &&& (2147483647 : Int32)) % (6 : Int32))), .val (.ref w_RECIPIENTS), .val (.long (1 : Int64)), .second, .val (.long (1000 : Int64)), .second, .val (.long ((1 : Int64) + ((i1 &&& (9223372036854775807 : Int64)) - ((i1 &&& (9223372036854775807 : Int64)) / (((1000 : Int64) - (1 : Int64)) + (1 : Int64))) * (((1000 : Int64) - (1 : Int64)) + (1 : Int64))))), .second, .val (.ref b87)] []))
          refine OGo.by (fun _ k => XS.aload X96.here hx rfl (hb hby at_170) rfl rfl k) ?_
          show OGo p e below _ (T96.setTop (mkF m 172 #[.val (.int i0), .val (.long i1), .second, .val (.int i2), .val (.int ((i0 &&& (2147483647 : Int32)) % (6 : Int32))), .val (.ref w_RECIPIENTS), .val (.long (1 : Int64)), .second, .val (.long (1000 : Int64)), .second, .val (.long ((1 : Int64) + ((i1 &&& (9223372036854775807 : Int64)) - ((i1 &&& (9223372036854775807 : Int64)) / (((1000 : Int64) - (1 : Int64)) + (1 : Int64))) * (((1000 : Int64) - (1 : Int64)) + (1 : Int64))))), .second, .val (.ref b87)] [(.ref w_RECIPIENTS)]))
          refine OGo.by (fun _ k => XS.aload X96.here hx rfl (hb hby at_172) rfl rfl k) ?_
          show OGo p e below _ (T96.setTop (mkF m 174 #[.val (.int i0), .val (.long i1), .second, .val (.int i2), .val (.int ((i0 &&& (2147483647 : Int32)) % (6 : Int32))), .val (.ref w_RECIPIENTS), .val (.long (1 : Int64)), .second, .val (.long (1000 : Int64)), .second, .val (.long ((1 : Int64) + ((i1 &&& (9223372036854775807 : Int64)) - ((i1 &&& (9223372036854775807 : Int64)) / (((1000 : Int64) - (1 : Int64)) + (1 : Int64))) * (((1000 : Int64) - (1 : Int64)) + (1 : Int64))))), .second, .val (.ref b87)] [(.ref b87), (.ref w_RECIPIENTS)]))
          refine OGo.by (fun _ k => XS.lload X96.here hx rfl (hb hby at_174) rfl k) ?_
          show OGo p e below _ (T96.setTop (mkF m 176 #[.val (.int i0), .val (.long i1), .second, .val (.int i2), .val (.int ((i0 &&& (2147483647 : Int32)) % (6 : Int32))), .val (.ref w_RECIPIENTS), .val (.long (1 : Int64)), .second, .val (.long (1000 : Int64)), .second, .val (.long ((1 : Int64) + ((i1 &&& (9223372036854775807 : Int64)) - ((i1 &&& (9223372036854775807 : Int64)) / (((1000 : Int64) - (1 : Int64)) + (1 : Int64))) * (((1000 : Int64) - (1 : Int64)) + (1 : Int64))))), .second, .val (.ref b87)] [(.long ((1 : Int64) + ((i1 &&& (9223372036854775807 : Int64)) - ((i1 &&& (9223372036854775807 : Int64)) / (((1000 : Int64) - (1 : Int64)) + (1 : Int64))) * (((1000 : Int64) - (1 : Int64)) + (1 : Int64))))), (.ref b87), (.ref w_RECIPIENTS)]))
          have f108 : Fld Z T96.heap w_RECIPIENTS "com/example/kept_inbox/keptinbox/Limit" "min" "I" (.int (1 : Int32)) := ((((F_RECIPIENTS_min.ext E87).ext E88).other W95 (Or.inl ne_w_RECIPIENTS_b88)).keep Kc96 (ninS ne_w_RECIPIENTS_b87 nin0))
          have f109 : Fld Z T96.heap w_RECIPIENTS "com/example/kept_inbox/keptinbox/Limit" "max" "I" (.int (1000 : Int32)) := ((((F_RECIPIENTS_max.ext E87).ext E88).other W95 (Or.inl ne_w_RECIPIENTS_b88)).keep Kc96 (ninS ne_w_RECIPIENTS_b87 nin0))
          have f110 : Exa Z T96.heap w_RECIPIENTS "com/example/kept_inbox/keptinbox/Limit" := (f104.keep Kc96)
          obtain ⟨cq107, kq107, q107a, q107b, q107c⟩ := isOf hZ rfl f110
          obtain ⟨_, _, ⟨T107, L107, k107, n107⟩, -, X107, ⟨Lc107, hQ107, l107, y107, z107⟩, st107⟩ := X96.virtualBack hx (y := (⟨"com/example/kept_inbox/keptinbox/Limit", "check", "(Ljava/lang/String;J)V"⟩ : MethodName)) (z := (⟨"com/example/kept_inbox/keptinbox/Limit", "check", "(Ljava/lang/String;J)V"⟩ : MethodName)) hown (mvT hZ (hw _ (List.mem_of_getElem? (i := 36) rfl))) (mvT hZ (hw _ (List.mem_of_getElem? (i := 37) rfl))) (notFace_of_selects (args := #[]) (mvT hZ (hw _ (List.mem_of_getElem? (i := 39) rfl)))) (mvT hZ (hw _ (List.mem_of_getElem? (i := 39) rfl))) (mvT hZ (hw _ (List.mem_of_getElem? (i := 38) rfl))) (by decide) (backOf (W := 0) (rm7 l Z av0 hw [] w_RECIPIENTS b87 ((1 : Int64) + ((i1 &&& (9223372036854775807 : Int64)) - ((i1 &&& (9223372036854775807 : Int64)) / (((1000 : Int64) - (1 : Int64)) + (1 : Int64))) * (((1000 : Int64) - (1 : Int64)) + (1 : Int64)))) (1 : Int32) (1000 : Int32) T96.heap n0 (Nat.le_trans Z0 K96.1) f108 f109 (own_nlt (own_rng (hi := (1000 : Int64)) 1 1000 (by decide) (by decide) (by decide) (by decide) (by decide) (own_nn i1)).1 (by decide)) (own_ngt (own_rng (hi := (1000 : Int64)) 1 1000 (by decide) (by decide) (by decide) (by decide) (by decide) (own_nn i1)).2 (by decide))) hZ (hw _ (List.mem_of_getElem? (i := 40) rfl)) (hw _ (List.mem_of_getElem? (i := 2) rfl)) (by decide) (by decide)) q107a q107c (g := (mkF m 176 #[.val (.int i0), .val (.long i1), .second, .val (.int i2), .val (.int ((i0 &&& (2147483647 : Int32)) % (6 : Int32))), .val (.ref w_RECIPIENTS), .val (.long (1 : Int64)), .second, .val (.long (1000 : Int64)), .second, .val (.long ((1 : Int64) + ((i1 &&& (9223372036854775807 : Int64)) - ((i1 &&& (9223372036854775807 : Int64)) / (((1000 : Int64) - (1 : Int64)) + (1 : Int64))) * (((1000 : Int64) - (1 : Int64)) + (1 : Int64))))), .second, .val (.ref b87)] [(.long ((1 : Int64) + ((i1 &&& (9223372036854775807 : Int64)) - ((i1 &&& (9223372036854775807 : Int64)) / (((1000 : Int64) - (1 : Int64)) + (1 : Int64))) * (((1000 : Int64) - (1 : Int64)) + (1 : Int64))))), (.ref b87), (.ref w_RECIPIENTS)])) rfl (by rw [hml]; rfl) (Steps.refl _) (argsL := [(.ref b87), (.long ((1 : Int64) + ((i1 &&& (9223372036854775807 : Int64)) - ((i1 &&& (9223372036854775807 : Int64)) / (((1000 : Int64) - (1 : Int64)) + (1 : Int64))) * (((1000 : Int64) - (1 : Int64)) + (1 : Int64)))))]) (rest := []) (lenOf own_pd1 rfl) rfl (by show 2 * 0 + _ ≤ _; exact Nat.le_of_eq rfl) (hb hby at_176) (fun _ _ => ⟨rfl, rfl, (by decide : 3 + 0 ≤ _), (by decide : 6 + 0 ≤ _)⟩)
          dsimp only [Pt.U, Pt.locs, Pt.cells, Pt.slots] at X107 l107 y107 z107 st107 hQ107
          subst l107 y107 z107
          obtain ⟨rfl, N107q, e107⟩ := hQ107
          have N107 := Fr.app N96 N107q
          refine OGo.of st107 ?_
          show OGo p e below _ (T107.setTop (mkF m 179 #[.val (.int i0), .val (.long i1), .second, .val (.int i2), .val (.int ((i0 &&& (2147483647 : Int32)) % (6 : Int32))), .val (.ref w_RECIPIENTS), .val (.long (1 : Int64)), .second, .val (.long (1000 : Int64)), .second, .val (.long ((1 : Int64) + ((i1 &&& (9223372036854775807 : Int64)) - ((i1 &&& (9223372036854775807 : Int64)) / (((1000 : Int64) - (1 : Int64)) + (1 : Int64))) * (((1000 : Int64) - (1 : Int64)) + (1 : Int64))))), .second, .val (.ref b87)] []))
          refine OGo.by (fun _ k => XS.aload X107.here hx rfl (hb hby at_179) rfl rfl k) ?_
          show OGo p e below _ (T107.setTop (mkF m 181 #[.val (.int i0), .val (.long i1), .second, .val (.int i2), .val (.int ((i0 &&& (2147483647 : Int32)) % (6 : Int32))), .val (.ref w_RECIPIENTS), .val (.long (1 : Int64)), .second, .val (.long (1000 : Int64)), .second, .val (.long ((1 : Int64) + ((i1 &&& (9223372036854775807 : Int64)) - ((i1 &&& (9223372036854775807 : Int64)) / (((1000 : Int64) - (1 : Int64)) + (1 : Int64))) * (((1000 : Int64) - (1 : Int64)) + (1 : Int64))))), .second, .val (.ref b87)] [(.ref w_RECIPIENTS)]))
          obtain ⟨cq111, kq111, q111a, q111b, q111c⟩ := isOf hZ e107 f110
          obtain ⟨_, _, ⟨T111, L111, k111, n111⟩, -, X111, ⟨Lc111, hQ111, l111, y111, z111⟩, st111⟩ := X107.virtualBack hx (y := (⟨"com/example/kept_inbox/keptinbox/Limit", "min", "()I"⟩ : MethodName)) (z := (⟨"com/example/kept_inbox/keptinbox/Limit", "min", "()I"⟩ : MethodName)) hown (mvT hZ (hw _ (List.mem_of_getElem? (i := 45) rfl))) (mvT hZ (hw _ (List.mem_of_getElem? (i := 46) rfl))) (notFace_of_selects (args := #[]) (mvT hZ (hw _ (List.mem_of_getElem? (i := 48) rfl)))) (mvT hZ (hw _ (List.mem_of_getElem? (i := 48) rfl))) (mvT hZ (hw _ (List.mem_of_getElem? (i := 47) rfl))) (by decide) (backOf (W := 0) (rm8 l Z av0 hw [] w_RECIPIENTS (1 : Int32) T96.heap n0 (Nat.le_trans Z0 K96.1) f108) hZ (hw _ (List.mem_of_getElem? (i := 49) rfl)) (hw _ (List.mem_of_getElem? (i := 2) rfl)) (by decide) (by decide)) q111a q111c (g := (mkF m 181 #[.val (.int i0), .val (.long i1), .second, .val (.int i2), .val (.int ((i0 &&& (2147483647 : Int32)) % (6 : Int32))), .val (.ref w_RECIPIENTS), .val (.long (1 : Int64)), .second, .val (.long (1000 : Int64)), .second, .val (.long ((1 : Int64) + ((i1 &&& (9223372036854775807 : Int64)) - ((i1 &&& (9223372036854775807 : Int64)) / (((1000 : Int64) - (1 : Int64)) + (1 : Int64))) * (((1000 : Int64) - (1 : Int64)) + (1 : Int64))))), .second, .val (.ref b87)] [(.ref w_RECIPIENTS)])) rfl (by rw [hml]; rfl) (Steps.refl _) (argsL := []) (rest := []) (lenOf own_pd2 rfl) rfl (by show 2 * 0 + _ ≤ _; exact Nat.le_of_eq rfl) (hb hby at_181) (fun _ _ => ⟨rfl, e107, (by decide : 3 + 0 ≤ _), (by decide : 6 + 0 ≤ _)⟩)
          dsimp only [Pt.U, Pt.locs, Pt.cells, Pt.slots] at X111 l111 y111 z111 st111 hQ111
          subst l111 y111 z111
          obtain ⟨rfl, N111q, e111⟩ := hQ111
          have N111 := Fr.app N107 N111q
          refine OGo.of st111 ?_
          show OGo p e below _ (T111.setTop (mkF m 184 #[.val (.int i0), .val (.long i1), .second, .val (.int i2), .val (.int ((i0 &&& (2147483647 : Int32)) % (6 : Int32))), .val (.ref w_RECIPIENTS), .val (.long (1 : Int64)), .second, .val (.long (1000 : Int64)), .second, .val (.long ((1 : Int64) + ((i1 &&& (9223372036854775807 : Int64)) - ((i1 &&& (9223372036854775807 : Int64)) / (((1000 : Int64) - (1 : Int64)) + (1 : Int64))) * (((1000 : Int64) - (1 : Int64)) + (1 : Int64))))), .second, .val (.ref b87)] [(.int (1 : Int32))]))
          refine OGo.by (fun _ k => XS.i2l X111.here hx rfl (hb hby at_184) rfl k) ?_
          show OGo p e below _ (T111.setTop (mkF m 185 #[.val (.int i0), .val (.long i1), .second, .val (.int i2), .val (.int ((i0 &&& (2147483647 : Int32)) % (6 : Int32))), .val (.ref w_RECIPIENTS), .val (.long (1 : Int64)), .second, .val (.long (1000 : Int64)), .second, .val (.long ((1 : Int64) + ((i1 &&& (9223372036854775807 : Int64)) - ((i1 &&& (9223372036854775807 : Int64)) / (((1000 : Int64) - (1 : Int64)) + (1 : Int64))) * (((1000 : Int64) - (1 : Int64)) + (1 : Int64))))), .second, .val (.ref b87)] [(.long ((1 : Int32).toInt64))]))
          refine OGo.by (fun _ k => XS.lload X111.here hx rfl (hb hby at_185) rfl k) ?_
          show OGo p e below _ (T111.setTop (mkF m 187 #[.val (.int i0), .val (.long i1), .second, .val (.int i2), .val (.int ((i0 &&& (2147483647 : Int32)) % (6 : Int32))), .val (.ref w_RECIPIENTS), .val (.long (1 : Int64)), .second, .val (.long (1000 : Int64)), .second, .val (.long ((1 : Int64) + ((i1 &&& (9223372036854775807 : Int64)) - ((i1 &&& (9223372036854775807 : Int64)) / (((1000 : Int64) - (1 : Int64)) + (1 : Int64))) * (((1000 : Int64) - (1 : Int64)) + (1 : Int64))))), .second, .val (.ref b87)] [(.long (1 : Int64)), (.long ((1 : Int32).toInt64))]))
          refine OGo.by (fun _ k => XS.lcmp X111.here hx rfl (hb hby at_187) rfl k) ?_
          show OGo p e below _ (T111.setTop (mkF m 188 #[.val (.int i0), .val (.long i1), .second, .val (.int i2), .val (.int ((i0 &&& (2147483647 : Int32)) % (6 : Int32))), .val (.ref w_RECIPIENTS), .val (.long (1 : Int64)), .second, .val (.long (1000 : Int64)), .second, .val (.long ((1 : Int64) + ((i1 &&& (9223372036854775807 : Int64)) - ((i1 &&& (9223372036854775807 : Int64)) / (((1000 : Int64) - (1 : Int64)) + (1 : Int64))) * (((1000 : Int64) - (1 : Int64)) + (1 : Int64))))), .second, .val (.ref b87)] [(.int (lcmpW ((1 : Int32).toInt64) (1 : Int64)))]))
          refine OGo.by (fun _ k => XS.ifNo X111.here hx rfl (hb hby at_188) rfl ((if0 _ _).trans (teq ((lw_eq _ _).mpr (by decide : ((1 : Int32).toInt64) = (1 : Int64)))).2) k) ?_
          show OGo p e below _ (T111.setTop (mkF m 191 #[.val (.int i0), .val (.long i1), .second, .val (.int i2), .val (.int ((i0 &&& (2147483647 : Int32)) % (6 : Int32))), .val (.ref w_RECIPIENTS), .val (.long (1 : Int64)), .second, .val (.long (1000 : Int64)), .second, .val (.long ((1 : Int64) + ((i1 &&& (9223372036854775807 : Int64)) - ((i1 &&& (9223372036854775807 : Int64)) / (((1000 : Int64) - (1 : Int64)) + (1 : Int64))) * (((1000 : Int64) - (1 : Int64)) + (1 : Int64))))), .second, .val (.ref b87)] []))
          refine OGo.by (fun _ k => XS.aload X111.here hx rfl (hb hby at_191) rfl rfl k) ?_
          show OGo p e below _ (T111.setTop (mkF m 193 #[.val (.int i0), .val (.long i1), .second, .val (.int i2), .val (.int ((i0 &&& (2147483647 : Int32)) % (6 : Int32))), .val (.ref w_RECIPIENTS), .val (.long (1 : Int64)), .second, .val (.long (1000 : Int64)), .second, .val (.long ((1 : Int64) + ((i1 &&& (9223372036854775807 : Int64)) - ((i1 &&& (9223372036854775807 : Int64)) / (((1000 : Int64) - (1 : Int64)) + (1 : Int64))) * (((1000 : Int64) - (1 : Int64)) + (1 : Int64))))), .second, .val (.ref b87)] [(.ref w_RECIPIENTS)]))
          obtain ⟨cq112, kq112, q112a, q112b, q112c⟩ := isOf hZ e111 f110
          obtain ⟨_, _, ⟨T112, L112, k112, n112⟩, -, X112, ⟨Lc112, hQ112, l112, y112, z112⟩, st112⟩ := X111.virtualBack hx (y := (⟨"com/example/kept_inbox/keptinbox/Limit", "max", "()I"⟩ : MethodName)) (z := (⟨"com/example/kept_inbox/keptinbox/Limit", "max", "()I"⟩ : MethodName)) hown (mvT hZ (hw _ (List.mem_of_getElem? (i := 50) rfl))) (mvT hZ (hw _ (List.mem_of_getElem? (i := 51) rfl))) (notFace_of_selects (args := #[]) (mvT hZ (hw _ (List.mem_of_getElem? (i := 53) rfl)))) (mvT hZ (hw _ (List.mem_of_getElem? (i := 53) rfl))) (mvT hZ (hw _ (List.mem_of_getElem? (i := 52) rfl))) (by decide) (backOf (W := 0) (rm9 l Z av0 hw [] w_RECIPIENTS (1000 : Int32) T96.heap n0 (Nat.le_trans Z0 K96.1) f109) hZ (hw _ (List.mem_of_getElem? (i := 54) rfl)) (hw _ (List.mem_of_getElem? (i := 2) rfl)) (by decide) (by decide)) q112a q112c (g := (mkF m 193 #[.val (.int i0), .val (.long i1), .second, .val (.int i2), .val (.int ((i0 &&& (2147483647 : Int32)) % (6 : Int32))), .val (.ref w_RECIPIENTS), .val (.long (1 : Int64)), .second, .val (.long (1000 : Int64)), .second, .val (.long ((1 : Int64) + ((i1 &&& (9223372036854775807 : Int64)) - ((i1 &&& (9223372036854775807 : Int64)) / (((1000 : Int64) - (1 : Int64)) + (1 : Int64))) * (((1000 : Int64) - (1 : Int64)) + (1 : Int64))))), .second, .val (.ref b87)] [(.ref w_RECIPIENTS)])) rfl (by rw [hml]; rfl) (Steps.refl _) (argsL := []) (rest := []) (lenOf own_pd2 rfl) rfl (by show 2 * 0 + _ ≤ _; exact Nat.le_of_eq rfl) (hb hby at_193) (fun _ _ => ⟨rfl, e111, (by decide : 3 + 0 ≤ _), (by decide : 6 + 0 ≤ _)⟩)
          dsimp only [Pt.U, Pt.locs, Pt.cells, Pt.slots] at X112 l112 y112 z112 st112 hQ112
          subst l112 y112 z112
          obtain ⟨rfl, N112q, e112⟩ := hQ112
          have N112 := Fr.app N111 N112q
          refine OGo.of st112 ?_
          show OGo p e below _ (T112.setTop (mkF m 196 #[.val (.int i0), .val (.long i1), .second, .val (.int i2), .val (.int ((i0 &&& (2147483647 : Int32)) % (6 : Int32))), .val (.ref w_RECIPIENTS), .val (.long (1 : Int64)), .second, .val (.long (1000 : Int64)), .second, .val (.long ((1 : Int64) + ((i1 &&& (9223372036854775807 : Int64)) - ((i1 &&& (9223372036854775807 : Int64)) / (((1000 : Int64) - (1 : Int64)) + (1 : Int64))) * (((1000 : Int64) - (1 : Int64)) + (1 : Int64))))), .second, .val (.ref b87)] [(.int (1000 : Int32))]))
          refine OGo.by (fun _ k => XS.i2l X112.here hx rfl (hb hby at_196) rfl k) ?_
          show OGo p e below _ (T112.setTop (mkF m 197 #[.val (.int i0), .val (.long i1), .second, .val (.int i2), .val (.int ((i0 &&& (2147483647 : Int32)) % (6 : Int32))), .val (.ref w_RECIPIENTS), .val (.long (1 : Int64)), .second, .val (.long (1000 : Int64)), .second, .val (.long ((1 : Int64) + ((i1 &&& (9223372036854775807 : Int64)) - ((i1 &&& (9223372036854775807 : Int64)) / (((1000 : Int64) - (1 : Int64)) + (1 : Int64))) * (((1000 : Int64) - (1 : Int64)) + (1 : Int64))))), .second, .val (.ref b87)] [(.long ((1000 : Int32).toInt64))]))
          refine OGo.by (fun _ k => XS.lload X112.here hx rfl (hb hby at_197) rfl k) ?_
          show OGo p e below _ (T112.setTop (mkF m 199 #[.val (.int i0), .val (.long i1), .second, .val (.int i2), .val (.int ((i0 &&& (2147483647 : Int32)) % (6 : Int32))), .val (.ref w_RECIPIENTS), .val (.long (1 : Int64)), .second, .val (.long (1000 : Int64)), .second, .val (.long ((1 : Int64) + ((i1 &&& (9223372036854775807 : Int64)) - ((i1 &&& (9223372036854775807 : Int64)) / (((1000 : Int64) - (1 : Int64)) + (1 : Int64))) * (((1000 : Int64) - (1 : Int64)) + (1 : Int64))))), .second, .val (.ref b87)] [(.long (1000 : Int64)), (.long ((1000 : Int32).toInt64))]))
          refine OGo.by (fun _ k => XS.lcmp X112.here hx rfl (hb hby at_199) rfl k) ?_
          show OGo p e below _ (T112.setTop (mkF m 200 #[.val (.int i0), .val (.long i1), .second, .val (.int i2), .val (.int ((i0 &&& (2147483647 : Int32)) % (6 : Int32))), .val (.ref w_RECIPIENTS), .val (.long (1 : Int64)), .second, .val (.long (1000 : Int64)), .second, .val (.long ((1 : Int64) + ((i1 &&& (9223372036854775807 : Int64)) - ((i1 &&& (9223372036854775807 : Int64)) / (((1000 : Int64) - (1 : Int64)) + (1 : Int64))) * (((1000 : Int64) - (1 : Int64)) + (1 : Int64))))), .second, .val (.ref b87)] [(.int (lcmpW ((1000 : Int32).toInt64) (1000 : Int64)))]))
          refine OGo.by (fun _ k => XS.ifNo X112.here hx rfl (hb hby at_200) rfl ((if0 _ _).trans (teq ((lw_eq _ _).mpr (by decide : ((1000 : Int32).toInt64) = (1000 : Int64)))).2) k) ?_
          show OGo p e below _ (T112.setTop (mkF m 203 #[.val (.int i0), .val (.long i1), .second, .val (.int i2), .val (.int ((i0 &&& (2147483647 : Int32)) % (6 : Int32))), .val (.ref w_RECIPIENTS), .val (.long (1 : Int64)), .second, .val (.long (1000 : Int64)), .second, .val (.long ((1 : Int64) + ((i1 &&& (9223372036854775807 : Int64)) - ((i1 &&& (9223372036854775807 : Int64)) / (((1000 : Int64) - (1 : Int64)) + (1 : Int64))) * (((1000 : Int64) - (1 : Int64)) + (1 : Int64))))), .second, .val (.ref b87)] []))
          refine OGo.by (fun _ k => XS.lload X112.here hx rfl (hb hby at_203) rfl k) ?_
          show OGo p e below _ (T112.setTop (mkF m 205 #[.val (.int i0), .val (.long i1), .second, .val (.int i2), .val (.int ((i0 &&& (2147483647 : Int32)) % (6 : Int32))), .val (.ref w_RECIPIENTS), .val (.long (1 : Int64)), .second, .val (.long (1000 : Int64)), .second, .val (.long ((1 : Int64) + ((i1 &&& (9223372036854775807 : Int64)) - ((i1 &&& (9223372036854775807 : Int64)) / (((1000 : Int64) - (1 : Int64)) + (1 : Int64))) * (((1000 : Int64) - (1 : Int64)) + (1 : Int64))))), .second, .val (.ref b87)] [(.long ((1 : Int64) + ((i1 &&& (9223372036854775807 : Int64)) - ((i1 &&& (9223372036854775807 : Int64)) / (((1000 : Int64) - (1 : Int64)) + (1 : Int64))) * (((1000 : Int64) - (1 : Int64)) + (1 : Int64)))))]))
          refine OGo.by (fun _ k => XS.lload X112.here hx rfl (hb hby at_205) rfl k) ?_
          show OGo p e below _ (T112.setTop (mkF m 207 #[.val (.int i0), .val (.long i1), .second, .val (.int i2), .val (.int ((i0 &&& (2147483647 : Int32)) % (6 : Int32))), .val (.ref w_RECIPIENTS), .val (.long (1 : Int64)), .second, .val (.long (1000 : Int64)), .second, .val (.long ((1 : Int64) + ((i1 &&& (9223372036854775807 : Int64)) - ((i1 &&& (9223372036854775807 : Int64)) / (((1000 : Int64) - (1 : Int64)) + (1 : Int64))) * (((1000 : Int64) - (1 : Int64)) + (1 : Int64))))), .second, .val (.ref b87)] [(.long (1 : Int64)), (.long ((1 : Int64) + ((i1 &&& (9223372036854775807 : Int64)) - ((i1 &&& (9223372036854775807 : Int64)) / (((1000 : Int64) - (1 : Int64)) + (1 : Int64))) * (((1000 : Int64) - (1 : Int64)) + (1 : Int64)))))]))
          refine OGo.by (fun _ k => XS.lcmp X112.here hx rfl (hb hby at_207) rfl k) ?_
          show OGo p e below _ (T112.setTop (mkF m 208 #[.val (.int i0), .val (.long i1), .second, .val (.int i2), .val (.int ((i0 &&& (2147483647 : Int32)) % (6 : Int32))), .val (.ref w_RECIPIENTS), .val (.long (1 : Int64)), .second, .val (.long (1000 : Int64)), .second, .val (.long ((1 : Int64) + ((i1 &&& (9223372036854775807 : Int64)) - ((i1 &&& (9223372036854775807 : Int64)) / (((1000 : Int64) - (1 : Int64)) + (1 : Int64))) * (((1000 : Int64) - (1 : Int64)) + (1 : Int64))))), .second, .val (.ref b87)] [(.int (lcmpW ((1 : Int64) + ((i1 &&& (9223372036854775807 : Int64)) - ((i1 &&& (9223372036854775807 : Int64)) / (((1000 : Int64) - (1 : Int64)) + (1 : Int64))) * (((1000 : Int64) - (1 : Int64)) + (1 : Int64)))) (1 : Int64)))]))
          refine OGo.by (fun _ k => XS.ifNo X112.here hx rfl (hb hby at_208) rfl ((if0 _ _).trans (flt (mt (lw_lt _ _).mp (own_nlt (own_rng (hi := (1000 : Int64)) 1 1000 (by decide) (by decide) (by decide) (by decide) (by decide) (own_nn i1)).1 (by decide)))).1) k) ?_
          show OGo p e below _ (T112.setTop (mkF m 211 #[.val (.int i0), .val (.long i1), .second, .val (.int i2), .val (.int ((i0 &&& (2147483647 : Int32)) % (6 : Int32))), .val (.ref w_RECIPIENTS), .val (.long (1 : Int64)), .second, .val (.long (1000 : Int64)), .second, .val (.long ((1 : Int64) + ((i1 &&& (9223372036854775807 : Int64)) - ((i1 &&& (9223372036854775807 : Int64)) / (((1000 : Int64) - (1 : Int64)) + (1 : Int64))) * (((1000 : Int64) - (1 : Int64)) + (1 : Int64))))), .second, .val (.ref b87)] []))
          refine OGo.by (fun _ k => XS.lload X112.here hx rfl (hb hby at_211) rfl k) ?_
          show OGo p e below _ (T112.setTop (mkF m 213 #[.val (.int i0), .val (.long i1), .second, .val (.int i2), .val (.int ((i0 &&& (2147483647 : Int32)) % (6 : Int32))), .val (.ref w_RECIPIENTS), .val (.long (1 : Int64)), .second, .val (.long (1000 : Int64)), .second, .val (.long ((1 : Int64) + ((i1 &&& (9223372036854775807 : Int64)) - ((i1 &&& (9223372036854775807 : Int64)) / (((1000 : Int64) - (1 : Int64)) + (1 : Int64))) * (((1000 : Int64) - (1 : Int64)) + (1 : Int64))))), .second, .val (.ref b87)] [(.long ((1 : Int64) + ((i1 &&& (9223372036854775807 : Int64)) - ((i1 &&& (9223372036854775807 : Int64)) / (((1000 : Int64) - (1 : Int64)) + (1 : Int64))) * (((1000 : Int64) - (1 : Int64)) + (1 : Int64)))))]))
          refine OGo.by (fun _ k => XS.lload X112.here hx rfl (hb hby at_213) rfl k) ?_
          show OGo p e below _ (T112.setTop (mkF m 215 #[.val (.int i0), .val (.long i1), .second, .val (.int i2), .val (.int ((i0 &&& (2147483647 : Int32)) % (6 : Int32))), .val (.ref w_RECIPIENTS), .val (.long (1 : Int64)), .second, .val (.long (1000 : Int64)), .second, .val (.long ((1 : Int64) + ((i1 &&& (9223372036854775807 : Int64)) - ((i1 &&& (9223372036854775807 : Int64)) / (((1000 : Int64) - (1 : Int64)) + (1 : Int64))) * (((1000 : Int64) - (1 : Int64)) + (1 : Int64))))), .second, .val (.ref b87)] [(.long (1000 : Int64)), (.long ((1 : Int64) + ((i1 &&& (9223372036854775807 : Int64)) - ((i1 &&& (9223372036854775807 : Int64)) / (((1000 : Int64) - (1 : Int64)) + (1 : Int64))) * (((1000 : Int64) - (1 : Int64)) + (1 : Int64)))))]))
          refine OGo.by (fun _ k => XS.lcmp X112.here hx rfl (hb hby at_215) rfl k) ?_
          show OGo p e below _ (T112.setTop (mkF m 216 #[.val (.int i0), .val (.long i1), .second, .val (.int i2), .val (.int ((i0 &&& (2147483647 : Int32)) % (6 : Int32))), .val (.ref w_RECIPIENTS), .val (.long (1 : Int64)), .second, .val (.long (1000 : Int64)), .second, .val (.long ((1 : Int64) + ((i1 &&& (9223372036854775807 : Int64)) - ((i1 &&& (9223372036854775807 : Int64)) / (((1000 : Int64) - (1 : Int64)) + (1 : Int64))) * (((1000 : Int64) - (1 : Int64)) + (1 : Int64))))), .second, .val (.ref b87)] [(.int (lcmpW ((1 : Int64) + ((i1 &&& (9223372036854775807 : Int64)) - ((i1 &&& (9223372036854775807 : Int64)) / (((1000 : Int64) - (1 : Int64)) + (1 : Int64))) * (((1000 : Int64) - (1 : Int64)) + (1 : Int64)))) (1000 : Int64)))]))
          refine OGo.by (fun _ k => XS.ifNo X112.here hx rfl (hb hby at_216) rfl ((if0 _ _).trans (flt (mt (lw_gt _ _).mp (own_ngt (own_rng (hi := (1000 : Int64)) 1 1000 (by decide) (by decide) (by decide) (by decide) (by decide) (own_nn i1)).2 (by decide)))).2.2.1) k) ?_
          show OGo p e below _ (T112.setTop (mkF m 219 #[.val (.int i0), .val (.long i1), .second, .val (.int i2), .val (.int ((i0 &&& (2147483647 : Int32)) % (6 : Int32))), .val (.ref w_RECIPIENTS), .val (.long (1 : Int64)), .second, .val (.long (1000 : Int64)), .second, .val (.long ((1 : Int64) + ((i1 &&& (9223372036854775807 : Int64)) - ((i1 &&& (9223372036854775807 : Int64)) / (((1000 : Int64) - (1 : Int64)) + (1 : Int64))) * (((1000 : Int64) - (1 : Int64)) + (1 : Int64))))), .second, .val (.ref b87)] []))
          refine OGo.by (fun _ k => XS.iconst X112.here hx rfl (hb hby at_219) k) ?_
          show OGo p e below _ (T112.setTop (mkF m 220 #[.val (.int i0), .val (.long i1), .second, .val (.int i2), .val (.int ((i0 &&& (2147483647 : Int32)) % (6 : Int32))), .val (.ref w_RECIPIENTS), .val (.long (1 : Int64)), .second, .val (.long (1000 : Int64)), .second, .val (.long ((1 : Int64) + ((i1 &&& (9223372036854775807 : Int64)) - ((i1 &&& (9223372036854775807 : Int64)) / (((1000 : Int64) - (1 : Int64)) + (1 : Int64))) * (((1000 : Int64) - (1 : Int64)) + (1 : Int64))))), .second, .val (.ref b87)] [(.int (1 : Int32))]))
          refine OGo.by (fun _ k => XS.goto X112.here hx rfl (pc0 := 220) (pc' := 224) rfl (hb hby at_220) (by decide) (by decide) k) ?_
          show OGo p e below _ (T112.setTop (mkF m 224 #[.val (.int i0), .val (.long i1), .second, .val (.int i2), .val (.int ((i0 &&& (2147483647 : Int32)) % (6 : Int32))), .val (.ref w_RECIPIENTS), .val (.long (1 : Int64)), .second, .val (.long (1000 : Int64)), .second, .val (.long ((1 : Int64) + ((i1 &&& (9223372036854775807 : Int64)) - ((i1 &&& (9223372036854775807 : Int64)) / (((1000 : Int64) - (1 : Int64)) + (1 : Int64))) * (((1000 : Int64) - (1 : Int64)) + (1 : Int64))))), .second, .val (.ref b87)] [(.int (1 : Int32))]))
          obtain ⟨fs, hr, hrun, hended, hW, hsame⟩ := X112.leave (v := some (.int (1 : Int32))) (fun h => by rw [Bd.returns] at h; cases h)
          refine OGo.ret (retN X112 hx (t := .boolean) Bd.returns (by simp) (hb hby at_224) hr) hrun hended ⟨_, _, rfl, ?_, ⟨_, rfl⟩, hW, hsame.mono (by decide) (by decide)⟩
          show Q_rm0 Z i0 i1 i2 w_NAME w_TITLE w_BODY w_RECIPIENTS w_MEMBERS w_SUBSCRIBER_IDS cz h0 n0 _ T112.heap _
          rw [e112]
          exact ⟨rfl, N112⟩
        · refine OGo.by (fun _ k => XS.icmpYes X0.here hx rfl (pc0 := 77) (pc' := 96) rfl (hb hby at_77) rfl (feq hc77_85).2 (by decide) (by decide) k) ?_
          show OGo p e below _ (s₁.setTop (mkF m 96 #[.val (.int i0), .val (.long i1), .second, .val (.int i2), .val (.int ((i0 &&& (2147483647 : Int32)) % (6 : Int32))), .unset, .unset, .unset, .unset, .unset, .unset, .unset, .unset] []))
          refine OGo.by (fun _ k => XS.iload X0.here hx rfl (hb hby at_96) rfl k) ?_
          show OGo p e below _ (s₁.setTop (mkF m 98 #[.val (.int i0), .val (.long i1), .second, .val (.int i2), .val (.int ((i0 &&& (2147483647 : Int32)) % (6 : Int32))), .unset, .unset, .unset, .unset, .unset, .unset, .unset, .unset] [(.int ((i0 &&& (2147483647 : Int32)) % (6 : Int32)))]))
          refine OGo.by (fun _ k => XS.iconst X0.here hx rfl (hb hby at_98) k) ?_
          show OGo p e below _ (s₁.setTop (mkF m 99 #[.val (.int i0), .val (.long i1), .second, .val (.int i2), .val (.int ((i0 &&& (2147483647 : Int32)) % (6 : Int32))), .unset, .unset, .unset, .unset, .unset, .unset, .unset, .unset] [(.int (4 : Int32)), (.int ((i0 &&& (2147483647 : Int32)) % (6 : Int32)))]))
          by_cases hc99_113 : ((i0 &&& (2147483647 : Int32)) % (6 : Int32)) = (4 : Int32)
          · refine OGo.by (fun _ k => XS.icmpNo X0.here hx rfl (hb hby at_99) rfl (teq hc99_113).2 k) ?_
            show OGo p e below _ (s₁.setTop (mkF m 102 #[.val (.int i0), .val (.long i1), .second, .val (.int i2), .val (.int ((i0 &&& (2147483647 : Int32)) % (6 : Int32))), .unset, .unset, .unset, .unset, .unset, .unset, .unset, .unset] []))
            obtain ⟨T114, X114, e114, st114⟩ := getS2 X0 hx hZ hown (host := "") (Or.inl (hw _ (List.mem_of_getElem? (i := 58) rfl))) Via.refl e0 (S_MEMBERS.ext O0.2) (g := (mkF m 102 #[.val (.int i0), .val (.long i1), .second, .val (.int i2), .val (.int ((i0 &&& (2147483647 : Int32)) % (6 : Int32))), .unset, .unset, .unset, .unset, .unset, .unset, .unset, .unset] [])) rfl (hb hby at_102)
            refine OGo.by st114 ?_
            show OGo p e below _ (T114.setTop (mkF m 105 #[.val (.int i0), .val (.long i1), .second, .val (.int i2), .val (.int ((i0 &&& (2147483647 : Int32)) % (6 : Int32))), .unset, .unset, .unset, .unset, .unset, .unset, .unset, .unset] [(.ref w_MEMBERS)]))
            refine OGo.by (fun _ k => XS.astore X114.here hx rfl (hb hby at_105) rfl rfl (l' := #[.val (.int i0), .val (.long i1), .second, .val (.int i2), .val (.int ((i0 &&& (2147483647 : Int32)) % (6 : Int32))), .val (.ref w_MEMBERS), .unset, .unset, .unset, .unset, .unset, .unset, .unset]) rfl k) ?_
            show OGo p e below _ (T114.setTop (mkF m 107 #[.val (.int i0), .val (.long i1), .second, .val (.int i2), .val (.int ((i0 &&& (2147483647 : Int32)) % (6 : Int32))), .val (.ref w_MEMBERS), .unset, .unset, .unset, .unset, .unset, .unset, .unset] []))
            refine OGo.by (fun _ k => XS.lconst X114.here hx rfl (hb hby at_107) k) ?_
            show OGo p e below _ (T114.setTop (mkF m 108 #[.val (.int i0), .val (.long i1), .second, .val (.int i2), .val (.int ((i0 &&& (2147483647 : Int32)) % (6 : Int32))), .val (.ref w_MEMBERS), .unset, .unset, .unset, .unset, .unset, .unset, .unset] [(.long (0 : Int64))]))
            refine OGo.by (fun _ k => XS.lstore X114.here hx rfl (hb hby at_108) rfl (l' := #[.val (.int i0), .val (.long i1), .second, .val (.int i2), .val (.int ((i0 &&& (2147483647 : Int32)) % (6 : Int32))), .val (.ref w_MEMBERS), .val (.long (0 : Int64)), .second, .unset, .unset, .unset, .unset, .unset]) rfl k) ?_
            show OGo p e below _ (T114.setTop (mkF m 110 #[.val (.int i0), .val (.long i1), .second, .val (.int i2), .val (.int ((i0 &&& (2147483647 : Int32)) % (6 : Int32))), .val (.ref w_MEMBERS), .val (.long (0 : Int64)), .second, .unset, .unset, .unset, .unset, .unset] []))
            refine OGo.by (X114.ldc2Long hx hown (mvT hZ (hw _ (List.mem_of_getElem? (i := 60) rfl))) (g := (mkF m 110 #[.val (.int i0), .val (.long i1), .second, .val (.int i2), .val (.int ((i0 &&& (2147483647 : Int32)) % (6 : Int32))), .val (.ref w_MEMBERS), .val (.long (0 : Int64)), .second, .unset, .unset, .unset, .unset, .unset] [])) rfl (hb hby at_110)) ?_
            show OGo p e below _ (T114.setTop (mkF m 113 #[.val (.int i0), .val (.long i1), .second, .val (.int i2), .val (.int ((i0 &&& (2147483647 : Int32)) % (6 : Int32))), .val (.ref w_MEMBERS), .val (.long (0 : Int64)), .second, .unset, .unset, .unset, .unset, .unset] [(.long (1000 : Int64))]))
            refine OGo.by (fun _ k => XS.lstore X114.here hx rfl (hb hby at_113) rfl (l' := #[.val (.int i0), .val (.long i1), .second, .val (.int i2), .val (.int ((i0 &&& (2147483647 : Int32)) % (6 : Int32))), .val (.ref w_MEMBERS), .val (.long (0 : Int64)), .second, .val (.long (1000 : Int64)), .second, .unset, .unset, .unset]) rfl k) ?_
            show OGo p e below _ (T114.setTop (mkF m 115 #[.val (.int i0), .val (.long i1), .second, .val (.int i2), .val (.int ((i0 &&& (2147483647 : Int32)) % (6 : Int32))), .val (.ref w_MEMBERS), .val (.long (0 : Int64)), .second, .val (.long (1000 : Int64)), .second, .unset, .unset, .unset] []))
            refine OGo.by (fun _ k => XS.goto X114.here hx rfl (pc0 := 115) (pc' := 131) rfl (hb hby at_115) (by decide) (by decide) k) ?_
            show OGo p e below _ (T114.setTop (mkF m 131 #[.val (.int i0), .val (.long i1), .second, .val (.int i2), .val (.int ((i0 &&& (2147483647 : Int32)) % (6 : Int32))), .val (.ref w_MEMBERS), .val (.long (0 : Int64)), .second, .val (.long (1000 : Int64)), .second, .unset, .unset, .unset] []))
            refine OGo.by (fun _ k => XS.lload X114.here hx rfl (hb hby at_131) rfl k) ?_
            show OGo p e below _ (T114.setTop (mkF m 133 #[.val (.int i0), .val (.long i1), .second, .val (.int i2), .val (.int ((i0 &&& (2147483647 : Int32)) % (6 : Int32))), .val (.ref w_MEMBERS), .val (.long (0 : Int64)), .second, .val (.long (1000 : Int64)), .second, .unset, .unset, .unset] [(.long (0 : Int64))]))
            refine OGo.by (fun _ k => XS.lloadN X114.here hx rfl (hb hby at_133) rfl k) ?_
            show OGo p e below _ (T114.setTop (mkF m 134 #[.val (.int i0), .val (.long i1), .second, .val (.int i2), .val (.int ((i0 &&& (2147483647 : Int32)) % (6 : Int32))), .val (.ref w_MEMBERS), .val (.long (0 : Int64)), .second, .val (.long (1000 : Int64)), .second, .unset, .unset, .unset] [(.long i1), (.long (0 : Int64))]))
            refine OGo.by (X114.ldc2Long hx hown (mvT hZ (hw _ (List.mem_of_getElem? (i := 5) rfl))) (g := (mkF m 134 #[.val (.int i0), .val (.long i1), .second, .val (.int i2), .val (.int ((i0 &&& (2147483647 : Int32)) % (6 : Int32))), .val (.ref w_MEMBERS), .val (.long (0 : Int64)), .second, .val (.long (1000 : Int64)), .second, .unset, .unset, .unset] [(.long i1), (.long (0 : Int64))])) rfl (hb hby at_134)) ?_
            show OGo p e below _ (T114.setTop (mkF m 137 #[.val (.int i0), .val (.long i1), .second, .val (.int i2), .val (.int ((i0 &&& (2147483647 : Int32)) % (6 : Int32))), .val (.ref w_MEMBERS), .val (.long (0 : Int64)), .second, .val (.long (1000 : Int64)), .second, .unset, .unset, .unset] [(.long (9223372036854775807 : Int64)), (.long i1), (.long (0 : Int64))]))
            refine OGo.by (fun _ k => XS.land X114.here hx rfl (hb hby at_137) rfl k) ?_
            show OGo p e below _ (T114.setTop (mkF m 138 #[.val (.int i0), .val (.long i1), .second, .val (.int i2), .val (.int ((i0 &&& (2147483647 : Int32)) % (6 : Int32))), .val (.ref w_MEMBERS), .val (.long (0 : Int64)), .second, .val (.long (1000 : Int64)), .second, .unset, .unset, .unset] [(.long (i1 &&& (9223372036854775807 : Int64))), (.long (0 : Int64))]))
            refine OGo.by (fun _ k => XS.lload X114.here hx rfl (hb hby at_138) rfl k) ?_
            show OGo p e below _ (T114.setTop (mkF m 140 #[.val (.int i0), .val (.long i1), .second, .val (.int i2), .val (.int ((i0 &&& (2147483647 : Int32)) % (6 : Int32))), .val (.ref w_MEMBERS), .val (.long (0 : Int64)), .second, .val (.long (1000 : Int64)), .second, .unset, .unset, .unset] [(.long (1000 : Int64)), (.long (i1 &&& (9223372036854775807 : Int64))), (.long (0 : Int64))]))
            refine OGo.by (fun _ k => XS.lload X114.here hx rfl (hb hby at_140) rfl k) ?_
            show OGo p e below _ (T114.setTop (mkF m 142 #[.val (.int i0), .val (.long i1), .second, .val (.int i2), .val (.int ((i0 &&& (2147483647 : Int32)) % (6 : Int32))), .val (.ref w_MEMBERS), .val (.long (0 : Int64)), .second, .val (.long (1000 : Int64)), .second, .unset, .unset, .unset] [(.long (0 : Int64)), (.long (1000 : Int64)), (.long (i1 &&& (9223372036854775807 : Int64))), (.long (0 : Int64))]))
            refine OGo.by (fun _ k => XS.lsub X114.here hx rfl (hb hby at_142) rfl k) ?_
            show OGo p e below _ (T114.setTop (mkF m 143 #[.val (.int i0), .val (.long i1), .second, .val (.int i2), .val (.int ((i0 &&& (2147483647 : Int32)) % (6 : Int32))), .val (.ref w_MEMBERS), .val (.long (0 : Int64)), .second, .val (.long (1000 : Int64)), .second, .unset, .unset, .unset] [(.long ((1000 : Int64) - (0 : Int64))), (.long (i1 &&& (9223372036854775807 : Int64))), (.long (0 : Int64))]))
            refine OGo.by (fun _ k => XS.lconst X114.here hx rfl (hb hby at_143) k) ?_
            show OGo p e below _ (T114.setTop (mkF m 144 #[.val (.int i0), .val (.long i1), .second, .val (.int i2), .val (.int ((i0 &&& (2147483647 : Int32)) % (6 : Int32))), .val (.ref w_MEMBERS), .val (.long (0 : Int64)), .second, .val (.long (1000 : Int64)), .second, .unset, .unset, .unset] [(.long (1 : Int64)), (.long ((1000 : Int64) - (0 : Int64))), (.long (i1 &&& (9223372036854775807 : Int64))), (.long (0 : Int64))]))
            refine OGo.by (fun _ k => XS.ladd X114.here hx rfl (hb hby at_144) rfl k) ?_
            show OGo p e below _ (T114.setTop (mkF m 145 #[.val (.int i0), .val (.long i1), .second, .val (.int i2), .val (.int ((i0 &&& (2147483647 : Int32)) % (6 : Int32))), .val (.ref w_MEMBERS), .val (.long (0 : Int64)), .second, .val (.long (1000 : Int64)), .second, .unset, .unset, .unset] [(.long (((1000 : Int64) - (0 : Int64)) + (1 : Int64))), (.long (i1 &&& (9223372036854775807 : Int64))), (.long (0 : Int64))]))
            refine OGo.by (fun _ k => XS.lrem X114.here hx rfl (hb hby at_145) rfl (by decide) k) ?_
            show OGo p e below _ (T114.setTop (mkF m 146 #[.val (.int i0), .val (.long i1), .second, .val (.int i2), .val (.int ((i0 &&& (2147483647 : Int32)) % (6 : Int32))), .val (.ref w_MEMBERS), .val (.long (0 : Int64)), .second, .val (.long (1000 : Int64)), .second, .unset, .unset, .unset] [(.long ((i1 &&& (9223372036854775807 : Int64)) - ((i1 &&& (9223372036854775807 : Int64)) / (((1000 : Int64) - (0 : Int64)) + (1 : Int64))) * (((1000 : Int64) - (0 : Int64)) + (1 : Int64)))), (.long (0 : Int64))]))
            refine OGo.by (fun _ k => XS.ladd X114.here hx rfl (hb hby at_146) rfl k) ?_
            show OGo p e below _ (T114.setTop (mkF m 147 #[.val (.int i0), .val (.long i1), .second, .val (.int i2), .val (.int ((i0 &&& (2147483647 : Int32)) % (6 : Int32))), .val (.ref w_MEMBERS), .val (.long (0 : Int64)), .second, .val (.long (1000 : Int64)), .second, .unset, .unset, .unset] [(.long ((0 : Int64) + ((i1 &&& (9223372036854775807 : Int64)) - ((i1 &&& (9223372036854775807 : Int64)) / (((1000 : Int64) - (0 : Int64)) + (1 : Int64))) * (((1000 : Int64) - (0 : Int64)) + (1 : Int64)))))]))
            refine OGo.by (fun _ k => XS.lstore X114.here hx rfl (hb hby at_147) rfl (l' := #[.val (.int i0), .val (.long i1), .second, .val (.int i2), .val (.int ((i0 &&& (2147483647 : Int32)) % (6 : Int32))), .val (.ref w_MEMBERS), .val (.long (0 : Int64)), .second, .val (.long (1000 : Int64)), .second, .val (.long ((0 : Int64) + ((i1 &&& (9223372036854775807 : Int64)) - ((i1 &&& (9223372036854775807 : Int64)) / (((1000 : Int64) - (0 : Int64)) + (1 : Int64))) * (((1000 : Int64) - (0 : Int64)) + (1 : Int64))))), .second, .unset]) rfl k) ?_
            show OGo p e below _ (T114.setTop (mkF m 149 #[.val (.int i0), .val (.long i1), .second, .val (.int i2), .val (.int ((i0 &&& (2147483647 : Int32)) % (6 : Int32))), .val (.ref w_MEMBERS), .val (.long (0 : Int64)), .second, .val (.long (1000 : Int64)), .second, .val (.long ((0 : Int64) + ((i1 &&& (9223372036854775807 : Int64)) - ((i1 &&& (9223372036854775807 : Int64)) / (((1000 : Int64) - (0 : Int64)) + (1 : Int64))) * (((1000 : Int64) - (0 : Int64)) + (1 : Int64))))), .second, .unset] []))
            obtain ⟨T115, h115, X115, e115, E115, A115, D115, U115, st115⟩ := newO X114 hx hZ hown (hw _ (List.mem_of_getElem? (i := 6) rfl)) (hw _ (List.mem_of_getElem? (i := 7) rfl)) (hw _ (List.mem_of_getElem? (i := 8) rfl)) e114 (g := (mkF m 149 #[.val (.int i0), .val (.long i1), .second, .val (.int i2), .val (.int ((i0 &&& (2147483647 : Int32)) % (6 : Int32))), .val (.ref w_MEMBERS), .val (.long (0 : Int64)), .second, .val (.long (1000 : Int64)), .second, .val (.long ((0 : Int64) + ((i1 &&& (9223372036854775807 : Int64)) - ((i1 &&& (9223372036854775807 : Int64)) / (((1000 : Int64) - (0 : Int64)) + (1 : Int64))) * (((1000 : Int64) - (0 : Int64)) + (1 : Int64))))), .second, .unset] [])) rfl (hb hby at_149) (by decide) (by decide)
            obtain ⟨b115, g115⟩ : ∃ z, z = h0.size := ⟨_, rfl⟩
            rw [← g115] at A115 D115 U115 st115
            have ne_w_NAME_b115 : w_NAME ≠ b115 := Nat.ne_of_lt (Nat.lt_of_lt_of_le E_NAME.lt (Nat.le_of_eq g115.symm))
            have ne_w_TITLE_b115 : w_TITLE ≠ b115 := Nat.ne_of_lt (Nat.lt_of_lt_of_le E_TITLE.lt (Nat.le_of_eq g115.symm))
            have ne_w_BODY_b115 : w_BODY ≠ b115 := Nat.ne_of_lt (Nat.lt_of_lt_of_le E_BODY.lt (Nat.le_of_eq g115.symm))
            have ne_w_RECIPIENTS_b115 : w_RECIPIENTS ≠ b115 := Nat.ne_of_lt (Nat.lt_of_lt_of_le E_RECIPIENTS.lt (Nat.le_of_eq g115.symm))
            have ne_w_MEMBERS_b115 : w_MEMBERS ≠ b115 := Nat.ne_of_lt (Nat.lt_of_lt_of_le E_MEMBERS.lt (Nat.le_of_eq g115.symm))
            have ne_w_SUBSCRIBER_IDS_b115 : w_SUBSCRIBER_IDS ≠ b115 := Nat.ne_of_lt (Nat.lt_of_lt_of_le E_SUBSCRIBER_IDS.lt (Nat.le_of_eq g115.symm))
            have g_b115 : n0 ≤ b115 := Nat.le_trans Z0 (Nat.le_of_eq g115.symm)
            have sz_b115 : h0.size ≤ b115 := Nat.le_trans (Nat.le_refl _) (Nat.le_of_eq g115.symm)
            refine OGo.by st115 ?_
            have K115 : Keep h0 h115 [] := ((Keep.refl h0 [])).ext E115
            have F115_coder : Fld Z h115 b115 "java/lang/String" "coder" "B" (.int (0 : Int32)) := D115 (Or.inr (hw _ (List.mem_of_getElem? (i := 33) rfl))) (ty := .byte) (by decide)
            have F115_value : Fld Z h115 b115 "java/lang/String" "value" "[B" .null := D115 (Or.inr (hw _ (List.mem_of_getElem? (i := 35) rfl))) (ty := (.array .byte)) (by decide)
            show OGo p e below _ (T115.setTop (mkF m 152 #[.val (.int i0), .val (.long i1), .second, .val (.int i2), .val (.int ((i0 &&& (2147483647 : Int32)) % (6 : Int32))), .val (.ref w_MEMBERS), .val (.long (0 : Int64)), .second, .val (.long (1000 : Int64)), .second, .val (.long ((0 : Int64) + ((i1 &&& (9223372036854775807 : Int64)) - ((i1 &&& (9223372036854775807 : Int64)) / (((1000 : Int64) - (0 : Int64)) + (1 : Int64))) * (((1000 : Int64) - (0 : Int64)) + (1 : Int64))))), .second, .unset] [(.ref b115)]))
            refine OGo.by (fun _ k => XS.dup X115.here hx rfl (hb hby at_152) rfl rfl k) ?_
            show OGo p e below _ (T115.setTop (mkF m 153 #[.val (.int i0), .val (.long i1), .second, .val (.int i2), .val (.int ((i0 &&& (2147483647 : Int32)) % (6 : Int32))), .val (.ref w_MEMBERS), .val (.long (0 : Int64)), .second, .val (.long (1000 : Int64)), .second, .val (.long ((0 : Int64) + ((i1 &&& (9223372036854775807 : Int64)) - ((i1 &&& (9223372036854775807 : Int64)) / (((1000 : Int64) - (0 : Int64)) + (1 : Int64))) * (((1000 : Int64) - (0 : Int64)) + (1 : Int64))))), .second, .unset] [(.ref b115), (.ref b115)]))
            refine OGo.by (fun _ k => XS.iconst X115.here hx rfl (hb hby at_153) k) ?_
            show OGo p e below _ (T115.setTop (mkF m 154 #[.val (.int i0), .val (.long i1), .second, .val (.int i2), .val (.int ((i0 &&& (2147483647 : Int32)) % (6 : Int32))), .val (.ref w_MEMBERS), .val (.long (0 : Int64)), .second, .val (.long (1000 : Int64)), .second, .val (.long ((0 : Int64) + ((i1 &&& (9223372036854775807 : Int64)) - ((i1 &&& (9223372036854775807 : Int64)) / (((1000 : Int64) - (0 : Int64)) + (1 : Int64))) * (((1000 : Int64) - (0 : Int64)) + (1 : Int64))))), .second, .unset] [(.int (1 : Int32)), (.ref b115), (.ref b115)]))
            obtain ⟨T116, h116, k116, X116, e116, E116, A116, st116⟩ := newP X115 hx hZ (hw _ (List.mem_of_getElem? (i := 9) rfl)) e115 (g := (mkF m 154 #[.val (.int i0), .val (.long i1), .second, .val (.int i2), .val (.int ((i0 &&& (2147483647 : Int32)) % (6 : Int32))), .val (.ref w_MEMBERS), .val (.long (0 : Int64)), .second, .val (.long (1000 : Int64)), .second, .val (.long ((0 : Int64) + ((i1 &&& (9223372036854775807 : Int64)) - ((i1 &&& (9223372036854775807 : Int64)) / (((1000 : Int64) - (0 : Int64)) + (1 : Int64))) * (((1000 : Int64) - (0 : Int64)) + (1 : Int64))))), .second, .unset] [(.int (1 : Int32)), (.ref b115), (.ref b115)])) rfl (hb hby at_154) rfl (by decide : ¬ ((1 : Int32) < (0 : Int32))) (cap := 1) (by decide) (by decide) (by decide) (by decide)
            obtain ⟨b116, g116⟩ : ∃ z, z = h115.size := ⟨_, rfl⟩
            rw [← g116] at A116 st116
            have f117 : Exa Z h115 w_NAME "com/example/kept_inbox/keptinbox/Limit" := (E_NAME.ext E115)
            have ne_w_NAME_b116 : w_NAME ≠ b116 := Nat.ne_of_lt (Nat.lt_of_lt_of_le f117.lt (Nat.le_of_eq g116.symm))
            have f118 : Exa Z h115 w_TITLE "com/example/kept_inbox/keptinbox/Limit" := (E_TITLE.ext E115)
            have ne_w_TITLE_b116 : w_TITLE ≠ b116 := Nat.ne_of_lt (Nat.lt_of_lt_of_le f118.lt (Nat.le_of_eq g116.symm))
            have f119 : Exa Z h115 w_BODY "com/example/kept_inbox/keptinbox/Limit" := (E_BODY.ext E115)
            have ne_w_BODY_b116 : w_BODY ≠ b116 := Nat.ne_of_lt (Nat.lt_of_lt_of_le f119.lt (Nat.le_of_eq g116.symm))
            have f120 : Exa Z h115 w_RECIPIENTS "com/example/kept_inbox/keptinbox/Limit" := (E_RECIPIENTS.ext E115)
            have ne_w_RECIPIENTS_b116 : w_RECIPIENTS ≠ b116 := Nat.ne_of_lt (Nat.lt_of_lt_of_le f120.lt (Nat.le_of_eq g116.symm))
            have f121 : Exa Z h115 w_MEMBERS "com/example/kept_inbox/keptinbox/Limit" := (E_MEMBERS.ext E115)
            have ne_w_MEMBERS_b116 : w_MEMBERS ≠ b116 := Nat.ne_of_lt (Nat.lt_of_lt_of_le f121.lt (Nat.le_of_eq g116.symm))
            have f122 : Exa Z h115 w_SUBSCRIBER_IDS "com/example/kept_inbox/keptinbox/Limit" := (E_SUBSCRIBER_IDS.ext E115)
            have ne_w_SUBSCRIBER_IDS_b116 : w_SUBSCRIBER_IDS ≠ b116 := Nat.ne_of_lt (Nat.lt_of_lt_of_le f122.lt (Nat.le_of_eq g116.symm))
            have ne_b115_b116 : b115 ≠ b116 := Nat.ne_of_lt (Nat.lt_of_lt_of_le A115.lt (Nat.le_of_eq g116.symm))
            have g_b116 : n0 ≤ b116 := Nat.le_trans (Nat.le_trans Z0 K115.1) (Nat.le_of_eq g116.symm)
            have sz_b116 : h0.size ≤ b116 := Nat.le_trans K115.1 (Nat.le_of_eq g116.symm)
            refine OGo.by st116 ?_
            have K116 : Keep h0 h116 [] := (K115).ext E116
            have V116 : Arv Z h116 b116 k116 .char (1 : Int32) [(.int (0 : Int32))] (.int (0 : Int32)) := (Arv.new A116 (by decide)).pad (pad_rep [] (.int (0 : Int32)) 1)
            show OGo p e below _ (T116.setTop (mkF m 156 #[.val (.int i0), .val (.long i1), .second, .val (.int i2), .val (.int ((i0 &&& (2147483647 : Int32)) % (6 : Int32))), .val (.ref w_MEMBERS), .val (.long (0 : Int64)), .second, .val (.long (1000 : Int64)), .second, .val (.long ((0 : Int64) + ((i1 &&& (9223372036854775807 : Int64)) - ((i1 &&& (9223372036854775807 : Int64)) / (((1000 : Int64) - (0 : Int64)) + (1 : Int64))) * (((1000 : Int64) - (0 : Int64)) + (1 : Int64))))), .second, .unset] [(.ref b116), (.ref b115), (.ref b115)]))
            refine OGo.by (fun _ k => XS.dup X116.here hx rfl (hb hby at_156) rfl rfl k) ?_
            show OGo p e below _ (T116.setTop (mkF m 157 #[.val (.int i0), .val (.long i1), .second, .val (.int i2), .val (.int ((i0 &&& (2147483647 : Int32)) % (6 : Int32))), .val (.ref w_MEMBERS), .val (.long (0 : Int64)), .second, .val (.long (1000 : Int64)), .second, .val (.long ((0 : Int64) + ((i1 &&& (9223372036854775807 : Int64)) - ((i1 &&& (9223372036854775807 : Int64)) / (((1000 : Int64) - (0 : Int64)) + (1 : Int64))) * (((1000 : Int64) - (0 : Int64)) + (1 : Int64))))), .second, .unset] [(.ref b116), (.ref b116), (.ref b115), (.ref b115)]))
            refine OGo.by (fun _ k => XS.iconst X116.here hx rfl (hb hby at_157) k) ?_
            show OGo p e below _ (T116.setTop (mkF m 158 #[.val (.int i0), .val (.long i1), .second, .val (.int i2), .val (.int ((i0 &&& (2147483647 : Int32)) % (6 : Int32))), .val (.ref w_MEMBERS), .val (.long (0 : Int64)), .second, .val (.long (1000 : Int64)), .second, .val (.long ((0 : Int64) + ((i1 &&& (9223372036854775807 : Int64)) - ((i1 &&& (9223372036854775807 : Int64)) / (((1000 : Int64) - (0 : Int64)) + (1 : Int64))) * (((1000 : Int64) - (0 : Int64)) + (1 : Int64))))), .second, .unset] [(.int (0 : Int32)), (.ref b116), (.ref b116), (.ref b115), (.ref b115)]))
            refine OGo.by (fun _ k => XS.iloadN X116.here hx rfl (hb hby at_158) rfl k) ?_
            show OGo p e below _ (T116.setTop (mkF m 159 #[.val (.int i0), .val (.long i1), .second, .val (.int i2), .val (.int ((i0 &&& (2147483647 : Int32)) % (6 : Int32))), .val (.ref w_MEMBERS), .val (.long (0 : Int64)), .second, .val (.long (1000 : Int64)), .second, .val (.long ((0 : Int64) + ((i1 &&& (9223372036854775807 : Int64)) - ((i1 &&& (9223372036854775807 : Int64)) / (((1000 : Int64) - (0 : Int64)) + (1 : Int64))) * (((1000 : Int64) - (0 : Int64)) + (1 : Int64))))), .second, .unset] [(.int i2), (.int (0 : Int32)), (.ref b116), (.ref b116), (.ref b115), (.ref b115)]))
            refine OGo.by (fun _ k => XS.sipush X116.here hx rfl (hb hby at_159) k) ?_
            show OGo p e below _ (T116.setTop (mkF m 162 #[.val (.int i0), .val (.long i1), .second, .val (.int i2), .val (.int ((i0 &&& (2147483647 : Int32)) % (6 : Int32))), .val (.ref w_MEMBERS), .val (.long (0 : Int64)), .second, .val (.long (1000 : Int64)), .second, .val (.long ((0 : Int64) + ((i1 &&& (9223372036854775807 : Int64)) - ((i1 &&& (9223372036854775807 : Int64)) / (((1000 : Int64) - (0 : Int64)) + (1 : Int64))) * (((1000 : Int64) - (0 : Int64)) + (1 : Int64))))), .second, .unset] [(.int (255 : Int32)), (.int i2), (.int (0 : Int32)), (.ref b116), (.ref b116), (.ref b115), (.ref b115)]))
            refine OGo.by (fun _ k => XS.iand X116.here hx rfl (hb hby at_162) rfl k) ?_
            show OGo p e below _ (T116.setTop (mkF m 163 #[.val (.int i0), .val (.long i1), .second, .val (.int i2), .val (.int ((i0 &&& (2147483647 : Int32)) % (6 : Int32))), .val (.ref w_MEMBERS), .val (.long (0 : Int64)), .second, .val (.long (1000 : Int64)), .second, .val (.long ((0 : Int64) + ((i1 &&& (9223372036854775807 : Int64)) - ((i1 &&& (9223372036854775807 : Int64)) / (((1000 : Int64) - (0 : Int64)) + (1 : Int64))) * (((1000 : Int64) - (0 : Int64)) + (1 : Int64))))), .second, .unset] [(.int (i2 &&& (255 : Int32))), (.int (0 : Int32)), (.ref b116), (.ref b116), (.ref b115), (.ref b115)]))
            refine OGo.by (fun _ k => XS.i2c X116.here hx rfl (hb hby at_163) rfl k) ?_
            show OGo p e below _ (T116.setTop (mkF m 164 #[.val (.int i0), .val (.long i1), .second, .val (.int i2), .val (.int ((i0 &&& (2147483647 : Int32)) % (6 : Int32))), .val (.ref w_MEMBERS), .val (.long (0 : Int64)), .second, .val (.long (1000 : Int64)), .second, .val (.long ((0 : Int64) + ((i1 &&& (9223372036854775807 : Int64)) - ((i1 &&& (9223372036854775807 : Int64)) / (((1000 : Int64) - (0 : Int64)) + (1 : Int64))) * (((1000 : Int64) - (0 : Int64)) + (1 : Int64))))), .second, .unset] [(.int ((i2 &&& (255 : Int32)).toUInt32.toUInt16.toUInt32.toInt32)), (.int (0 : Int32)), (.ref b116), (.ref b116), (.ref b115), (.ref b115)]))
            obtain ⟨cl123, Ar123, q123, S123, M123, Hs123, G123⟩ := id V116
            obtain ⟨T123, h123, X123, e123, W123, st123⟩ := stC X116 hx hZ e116 Ar123 (j := (0 : Int32)) (inb_of S123 ⟨(by decide), (by decide)⟩) (g := (mkF m 164 #[.val (.int i0), .val (.long i1), .second, .val (.int i2), .val (.int ((i0 &&& (2147483647 : Int32)) % (6 : Int32))), .val (.ref w_MEMBERS), .val (.long (0 : Int64)), .second, .val (.long (1000 : Int64)), .second, .val (.long ((0 : Int64) + ((i1 &&& (9223372036854775807 : Int64)) - ((i1 &&& (9223372036854775807 : Int64)) / (((1000 : Int64) - (0 : Int64)) + (1 : Int64))) * (((1000 : Int64) - (0 : Int64)) + (1 : Int64))))), .second, .unset] [(.int ((i2 &&& (255 : Int32)).toUInt32.toUInt16.toUInt32.toInt32)), (.int (0 : Int32)), (.ref b116), (.ref b116), (.ref b115), (.ref b115)])) rfl rfl (hb hby at_164)
            refine OGo.by st123 ?_
            have N123 := Fr.snoc X123 N0 g_b116
            have K123 : Keep h0 h123 [] := (K116).wr W123 (Or.inr sz_b116)
            have V123 : Arv Z h123 b116 k116 .char (1 : Int32) [(.int (nar .char ((i2 &&& (255 : Int32)).toUInt32.toUInt16.toUInt32.toInt32)))] (.int (0 : Int32)) := Arv.set Ar123 q123 S123 M123 Hs123 G123 (fits_nar_char _) W123 0 rfl (Nat.le_of_ble_eq_true rfl)
            show OGo p e below _ (T123.setTop (mkF m 165 #[.val (.int i0), .val (.long i1), .second, .val (.int i2), .val (.int ((i0 &&& (2147483647 : Int32)) % (6 : Int32))), .val (.ref w_MEMBERS), .val (.long (0 : Int64)), .second, .val (.long (1000 : Int64)), .second, .val (.long ((0 : Int64) + ((i1 &&& (9223372036854775807 : Int64)) - ((i1 &&& (9223372036854775807 : Int64)) / (((1000 : Int64) - (0 : Int64)) + (1 : Int64))) * (((1000 : Int64) - (0 : Int64)) + (1 : Int64))))), .second, .unset] [(.ref b116), (.ref b115), (.ref b115)]))
            have f125 : Exa Z h123 b115 "java/lang/String" := ((A115.ext E116).wr W123)
            have f126 : Fld Z h123 b115 "java/lang/String" "value" "[B" .null := ((F115_value.ext E116).other W123 (Or.inl ne_b115_b116))
            have f127 : Fld Z h123 b115 "java/lang/String" "coder" "B" (.int (0 : Int32)) := ((F115_coder.ext E116).other W123 (Or.inl ne_b115_b116))
            have f128 : Old Z n0 h123 := (((O0.ext E115).ext E116).wr W123 g_b116)
            have hp124 : ∀ c ∈ ([(nar .char ((i2 &&& (255 : Int32)).toUInt32.toUInt16.toUInt32.toInt32))] : List Int32), ¬ c < 0 ∧ ¬ (255 : Int32) < c := by
              intro c hc; simp only [List.mem_cons, List.not_mem_nil, or_false] at hc
              subst hc; exact and255_chars i2
            have hws124 : ∀ d ∈ StrChars.Road.words, d.before av0 Z = true := fun d hd => hw d ((by decide +kernel : ∀ d ∈ StrChars.Road.words, d ∈ tables_1) d hd)
            obtain ⟨_, _, ⟨T124, L124, k124, n124⟩, -, X124, ⟨Lc124, hQ124, l124, y124, z124⟩, st124⟩ := X123.specialBack hx (y := (⟨"java/lang/String", "<init>", "([C)V"⟩ : MethodName)) rfl hown (mvT hZ (hw _ (List.mem_of_getElem? (i := 10) rfl))) (mvT hZ (hw _ (List.mem_of_getElem? (i := 11) rfl))) (mvT hZ (hw _ (List.mem_of_getElem? (i := 12) rfl))) (by decide) (StrChars.Road.backV (W := 1) hZ hws124 (kI := 4) (hw _ (List.mem_of_getElem? (i := 7) rfl)) (cs := ([(nar .char ((i2 &&& (255 : Int32)).toUInt32.toUInt16.toUInt32.toInt32))] : List Int32)) (bs := ([(nar .char ((i2 &&& (255 : Int32)).toUInt32.toUInt16.toUInt32.toInt32))] : List Int32).map (fun c => c.toInt8.toInt32)) (n := 1) g_b115 (Nat.le_trans Z0 K123.1) f125 f126 f127 V123 (S1.ext f128.2) hcz rfl rfl (by decide) (by decide) hp124 rfl (by decide) (by decide)) (g := (mkF m 165 #[.val (.int i0), .val (.long i1), .second, .val (.int i2), .val (.int ((i0 &&& (2147483647 : Int32)) % (6 : Int32))), .val (.ref w_MEMBERS), .val (.long (0 : Int64)), .second, .val (.long (1000 : Int64)), .second, .val (.long ((0 : Int64) + ((i1 &&& (9223372036854775807 : Int64)) - ((i1 &&& (9223372036854775807 : Int64)) / (((1000 : Int64) - (0 : Int64)) + (1 : Int64))) * (((1000 : Int64) - (0 : Int64)) + (1 : Int64))))), .second, .unset] [(.ref b116), (.ref b115), (.ref b115)])) rfl (by rw [hml]; rfl) (Steps.refl _) (a := b115) (argsL := [(.ref b116)]) (rest := [(.ref b115)]) (lenOf own_pd0 rfl) rfl (by show 2 * 0 + _ ≤ _; exact Nat.le_of_eq rfl) (hb hby at_165) (fun _ _ => ⟨rfl, e123, (by decide : 2 + 1 ≤ _), (by decide : 5 + 1 ≤ _)⟩)
            dsimp only [Pt.U, Pt.locs, Pt.cells, Pt.slots] at X124 l124 y124 z124 st124 hQ124
            subst l124 y124 z124
            obtain ⟨rfl, N124q, Kc124, GE124, GC124, t124, kb124, gt124, ge124, ne_t124_b115, GV124, GA124⟩ := hQ124
            have N124 := Fr.app N123 N124q
            have f129 : Exa Z h123 w_NAME "com/example/kept_inbox/keptinbox/Limit" := ((f117.ext E116).wr W123)
            have ne_w_NAME_t124 : w_NAME ≠ t124 := Nat.ne_of_lt (Nat.lt_of_lt_of_le f129.lt ge124)
            have f130 : Exa Z h123 w_TITLE "com/example/kept_inbox/keptinbox/Limit" := ((f118.ext E116).wr W123)
            have ne_w_TITLE_t124 : w_TITLE ≠ t124 := Nat.ne_of_lt (Nat.lt_of_lt_of_le f130.lt ge124)
            have f131 : Exa Z h123 w_BODY "com/example/kept_inbox/keptinbox/Limit" := ((f119.ext E116).wr W123)
            have ne_w_BODY_t124 : w_BODY ≠ t124 := Nat.ne_of_lt (Nat.lt_of_lt_of_le f131.lt ge124)
            have f132 : Exa Z h123 w_RECIPIENTS "com/example/kept_inbox/keptinbox/Limit" := ((f120.ext E116).wr W123)
            have ne_w_RECIPIENTS_t124 : w_RECIPIENTS ≠ t124 := Nat.ne_of_lt (Nat.lt_of_lt_of_le f132.lt ge124)
            have f133 : Exa Z h123 w_MEMBERS "com/example/kept_inbox/keptinbox/Limit" := ((f121.ext E116).wr W123)
            have ne_w_MEMBERS_t124 : w_MEMBERS ≠ t124 := Nat.ne_of_lt (Nat.lt_of_lt_of_le f133.lt ge124)
            have f134 : Exa Z h123 w_SUBSCRIBER_IDS "com/example/kept_inbox/keptinbox/Limit" := ((f122.ext E116).wr W123)
            have ne_w_SUBSCRIBER_IDS_t124 : w_SUBSCRIBER_IDS ≠ t124 := Nat.ne_of_lt (Nat.lt_of_lt_of_le f134.lt ge124)
            have ne_b115_t124 : b115 ≠ t124 := Nat.ne_of_lt (Nat.lt_of_lt_of_le f125.lt ge124)
            have ne_b116_t124 : b116 ≠ t124 := Nat.ne_of_lt (Nat.lt_of_lt_of_le V123.lt ge124)
            have g_t124 : n0 ≤ t124 := Nat.le_trans (Nat.le_trans Z0 K123.1) ge124
            have sz_t124 : h0.size ≤ t124 := Nat.le_trans K123.1 ge124
            have K124 : Keep h0 T124.heap [] := (K123).trans Kc124 (fun x hx => by simp only [List.mem_cons, List.not_mem_nil, or_false] at hx; subst hx; exact Or.inr sz_b115)
            refine OGo.of st124 ?_
            show OGo p e below _ (T124.setTop (mkF m 168 #[.val (.int i0), .val (.long i1), .second, .val (.int i2), .val (.int ((i0 &&& (2147483647 : Int32)) % (6 : Int32))), .val (.ref w_MEMBERS), .val (.long (0 : Int64)), .second, .val (.long (1000 : Int64)), .second, .val (.long ((0 : Int64) + ((i1 &&& (9223372036854775807 : Int64)) - ((i1 &&& (9223372036854775807 : Int64)) / (((1000 : Int64) - (0 : Int64)) + (1 : Int64))) * (((1000 : Int64) - (0 : Int64)) + (1 : Int64))))), .second, .unset] [(.ref b115)]))
            refine OGo.by (fun _ k => XS.astore X124.here hx rfl (hb hby at_168) rfl rfl (l' := #[.val (.int i0), .val (.long i1), .second, .val (.int i2), .val (.int ((i0 &&& (2147483647 : Int32)) % (6 : Int32))), .val (.ref w_MEMBERS), .val (.long (0 : Int64)), .second, .val (.long (1000 : Int64)), .second, .val (.long ((0 : Int64) + ((i1 &&& (9223372036854775807 : Int64)) - ((i1 &&& (9223372036854775807 : Int64)) / (((1000 : Int64) - (0 : Int64)) + (1 : Int64))) * (((1000 : Int64) - (0 : Int64)) + (1 : Int64))))), .second, .val (.ref b115)]) rfl k) ?_
            show OGo p e below _ (T124.setTop (mkF m 170 #[.val (.int i0), .val (.long i1), .second, .val (.int i2), .val (.int ((i0 &&& (2147483647 : Int32)) % (6 : Int32))), .val (.ref w_MEMBERS), .val (.long (0 : Int64)), .second, .val (.long (1000 : Int64)), .second, .val (.long ((0 : Int64) + ((i1 &&& (9223372036854775807 : Int64)) - ((i1 &&& (9223372036854775807 : Int64)) / (((1000 : Int64) - (0 : Int64)) + (1 : Int64))) * (((1000 : Int64) - (0 : Int64)) + (1 : Int64))))), .second, .val (.ref b115)] []))
            refine OGo.by (fun _ k => XS.aload X124.here hx rfl (hb hby at_170) rfl rfl k) ?_
            show OGo p e below _ (T124.setTop (mkF m 172 #[.val (.int i0), .val (.long i1), .second, .val (.int i2), .val (.int ((i0 &&& (2147483647 : Int32)) % (6 : Int32))), .val (.ref w_MEMBERS), .val (.long (0 : Int64)), .second, .val (.long (1000 : Int64)), .second, .val (.long ((0 : Int64) + ((i1 &&& (9223372036854775807 : Int64)) - ((i1 &&& (9223372036854775807 : Int64)) / (((1000 : Int64) - (0 : Int64)) + (1 : Int64))) * (((1000 : Int64) - (0 : Int64)) + (1 : Int64))))), .second, .val (.ref b115)] [(.ref w_MEMBERS)]))
            refine OGo.by (fun _ k => XS.aload X124.here hx rfl (hb hby at_172) rfl rfl k) ?_
            show OGo p e below _ (T124.setTop (mkF m 174 #[.val (.int i0), .val (.long i1), .second, .val (.int i2), .val (.int ((i0 &&& (2147483647 : Int32)) % (6 : Int32))), .val (.ref w_MEMBERS), .val (.long (0 : Int64)), .second, .val (.long (1000 : Int64)), .second, .val (.long ((0 : Int64) + ((i1 &&& (9223372036854775807 : Int64)) - ((i1 &&& (9223372036854775807 : Int64)) / (((1000 : Int64) - (0 : Int64)) + (1 : Int64))) * (((1000 : Int64) - (0 : Int64)) + (1 : Int64))))), .second, .val (.ref b115)] [(.ref b115), (.ref w_MEMBERS)]))
            refine OGo.by (fun _ k => XS.lload X124.here hx rfl (hb hby at_174) rfl k) ?_
            show OGo p e below _ (T124.setTop (mkF m 176 #[.val (.int i0), .val (.long i1), .second, .val (.int i2), .val (.int ((i0 &&& (2147483647 : Int32)) % (6 : Int32))), .val (.ref w_MEMBERS), .val (.long (0 : Int64)), .second, .val (.long (1000 : Int64)), .second, .val (.long ((0 : Int64) + ((i1 &&& (9223372036854775807 : Int64)) - ((i1 &&& (9223372036854775807 : Int64)) / (((1000 : Int64) - (0 : Int64)) + (1 : Int64))) * (((1000 : Int64) - (0 : Int64)) + (1 : Int64))))), .second, .val (.ref b115)] [(.long ((0 : Int64) + ((i1 &&& (9223372036854775807 : Int64)) - ((i1 &&& (9223372036854775807 : Int64)) / (((1000 : Int64) - (0 : Int64)) + (1 : Int64))) * (((1000 : Int64) - (0 : Int64)) + (1 : Int64))))), (.ref b115), (.ref w_MEMBERS)]))
            have f136 : Fld Z T124.heap w_MEMBERS "com/example/kept_inbox/keptinbox/Limit" "min" "I" (.int (0 : Int32)) := ((((F_MEMBERS_min.ext E115).ext E116).other W123 (Or.inl ne_w_MEMBERS_b116)).keep Kc124 (ninS ne_w_MEMBERS_b115 nin0))
            have f137 : Fld Z T124.heap w_MEMBERS "com/example/kept_inbox/keptinbox/Limit" "max" "I" (.int (1000 : Int32)) := ((((F_MEMBERS_max.ext E115).ext E116).other W123 (Or.inl ne_w_MEMBERS_b116)).keep Kc124 (ninS ne_w_MEMBERS_b115 nin0))
            have f138 : Exa Z T124.heap w_MEMBERS "com/example/kept_inbox/keptinbox/Limit" := (f133.keep Kc124)
            obtain ⟨cq135, kq135, q135a, q135b, q135c⟩ := isOf hZ rfl f138
            obtain ⟨_, _, ⟨T135, L135, k135, n135⟩, -, X135, ⟨Lc135, hQ135, l135, y135, z135⟩, st135⟩ := X124.virtualBack hx (y := (⟨"com/example/kept_inbox/keptinbox/Limit", "check", "(Ljava/lang/String;J)V"⟩ : MethodName)) (z := (⟨"com/example/kept_inbox/keptinbox/Limit", "check", "(Ljava/lang/String;J)V"⟩ : MethodName)) hown (mvT hZ (hw _ (List.mem_of_getElem? (i := 36) rfl))) (mvT hZ (hw _ (List.mem_of_getElem? (i := 37) rfl))) (notFace_of_selects (args := #[]) (mvT hZ (hw _ (List.mem_of_getElem? (i := 39) rfl)))) (mvT hZ (hw _ (List.mem_of_getElem? (i := 39) rfl))) (mvT hZ (hw _ (List.mem_of_getElem? (i := 38) rfl))) (by decide) (backOf (W := 0) (rm7 l Z av0 hw [] w_MEMBERS b115 ((0 : Int64) + ((i1 &&& (9223372036854775807 : Int64)) - ((i1 &&& (9223372036854775807 : Int64)) / (((1000 : Int64) - (0 : Int64)) + (1 : Int64))) * (((1000 : Int64) - (0 : Int64)) + (1 : Int64)))) (0 : Int32) (1000 : Int32) T124.heap n0 (Nat.le_trans Z0 K124.1) f136 f137 (own_nlt (own_rng (hi := (1000 : Int64)) 0 1000 (by decide) (by decide) (by decide) (by decide) (by decide) (own_nn i1)).1 (by decide)) (own_ngt (own_rng (hi := (1000 : Int64)) 0 1000 (by decide) (by decide) (by decide) (by decide) (by decide) (own_nn i1)).2 (by decide))) hZ (hw _ (List.mem_of_getElem? (i := 40) rfl)) (hw _ (List.mem_of_getElem? (i := 2) rfl)) (by decide) (by decide)) q135a q135c (g := (mkF m 176 #[.val (.int i0), .val (.long i1), .second, .val (.int i2), .val (.int ((i0 &&& (2147483647 : Int32)) % (6 : Int32))), .val (.ref w_MEMBERS), .val (.long (0 : Int64)), .second, .val (.long (1000 : Int64)), .second, .val (.long ((0 : Int64) + ((i1 &&& (9223372036854775807 : Int64)) - ((i1 &&& (9223372036854775807 : Int64)) / (((1000 : Int64) - (0 : Int64)) + (1 : Int64))) * (((1000 : Int64) - (0 : Int64)) + (1 : Int64))))), .second, .val (.ref b115)] [(.long ((0 : Int64) + ((i1 &&& (9223372036854775807 : Int64)) - ((i1 &&& (9223372036854775807 : Int64)) / (((1000 : Int64) - (0 : Int64)) + (1 : Int64))) * (((1000 : Int64) - (0 : Int64)) + (1 : Int64))))), (.ref b115), (.ref w_MEMBERS)])) rfl (by rw [hml]; rfl) (Steps.refl _) (argsL := [(.ref b115), (.long ((0 : Int64) + ((i1 &&& (9223372036854775807 : Int64)) - ((i1 &&& (9223372036854775807 : Int64)) / (((1000 : Int64) - (0 : Int64)) + (1 : Int64))) * (((1000 : Int64) - (0 : Int64)) + (1 : Int64)))))]) (rest := []) (lenOf own_pd1 rfl) rfl (by show 2 * 0 + _ ≤ _; exact Nat.le_of_eq rfl) (hb hby at_176) (fun _ _ => ⟨rfl, rfl, (by decide : 3 + 0 ≤ _), (by decide : 6 + 0 ≤ _)⟩)
            dsimp only [Pt.U, Pt.locs, Pt.cells, Pt.slots] at X135 l135 y135 z135 st135 hQ135
            subst l135 y135 z135
            obtain ⟨rfl, N135q, e135⟩ := hQ135
            have N135 := Fr.app N124 N135q
            refine OGo.of st135 ?_
            show OGo p e below _ (T135.setTop (mkF m 179 #[.val (.int i0), .val (.long i1), .second, .val (.int i2), .val (.int ((i0 &&& (2147483647 : Int32)) % (6 : Int32))), .val (.ref w_MEMBERS), .val (.long (0 : Int64)), .second, .val (.long (1000 : Int64)), .second, .val (.long ((0 : Int64) + ((i1 &&& (9223372036854775807 : Int64)) - ((i1 &&& (9223372036854775807 : Int64)) / (((1000 : Int64) - (0 : Int64)) + (1 : Int64))) * (((1000 : Int64) - (0 : Int64)) + (1 : Int64))))), .second, .val (.ref b115)] []))
            refine OGo.by (fun _ k => XS.aload X135.here hx rfl (hb hby at_179) rfl rfl k) ?_
            show OGo p e below _ (T135.setTop (mkF m 181 #[.val (.int i0), .val (.long i1), .second, .val (.int i2), .val (.int ((i0 &&& (2147483647 : Int32)) % (6 : Int32))), .val (.ref w_MEMBERS), .val (.long (0 : Int64)), .second, .val (.long (1000 : Int64)), .second, .val (.long ((0 : Int64) + ((i1 &&& (9223372036854775807 : Int64)) - ((i1 &&& (9223372036854775807 : Int64)) / (((1000 : Int64) - (0 : Int64)) + (1 : Int64))) * (((1000 : Int64) - (0 : Int64)) + (1 : Int64))))), .second, .val (.ref b115)] [(.ref w_MEMBERS)]))
            obtain ⟨cq139, kq139, q139a, q139b, q139c⟩ := isOf hZ e135 f138
            obtain ⟨_, _, ⟨T139, L139, k139, n139⟩, -, X139, ⟨Lc139, hQ139, l139, y139, z139⟩, st139⟩ := X135.virtualBack hx (y := (⟨"com/example/kept_inbox/keptinbox/Limit", "min", "()I"⟩ : MethodName)) (z := (⟨"com/example/kept_inbox/keptinbox/Limit", "min", "()I"⟩ : MethodName)) hown (mvT hZ (hw _ (List.mem_of_getElem? (i := 45) rfl))) (mvT hZ (hw _ (List.mem_of_getElem? (i := 46) rfl))) (notFace_of_selects (args := #[]) (mvT hZ (hw _ (List.mem_of_getElem? (i := 48) rfl)))) (mvT hZ (hw _ (List.mem_of_getElem? (i := 48) rfl))) (mvT hZ (hw _ (List.mem_of_getElem? (i := 47) rfl))) (by decide) (backOf (W := 0) (rm8 l Z av0 hw [] w_MEMBERS (0 : Int32) T124.heap n0 (Nat.le_trans Z0 K124.1) f136) hZ (hw _ (List.mem_of_getElem? (i := 49) rfl)) (hw _ (List.mem_of_getElem? (i := 2) rfl)) (by decide) (by decide)) q139a q139c (g := (mkF m 181 #[.val (.int i0), .val (.long i1), .second, .val (.int i2), .val (.int ((i0 &&& (2147483647 : Int32)) % (6 : Int32))), .val (.ref w_MEMBERS), .val (.long (0 : Int64)), .second, .val (.long (1000 : Int64)), .second, .val (.long ((0 : Int64) + ((i1 &&& (9223372036854775807 : Int64)) - ((i1 &&& (9223372036854775807 : Int64)) / (((1000 : Int64) - (0 : Int64)) + (1 : Int64))) * (((1000 : Int64) - (0 : Int64)) + (1 : Int64))))), .second, .val (.ref b115)] [(.ref w_MEMBERS)])) rfl (by rw [hml]; rfl) (Steps.refl _) (argsL := []) (rest := []) (lenOf own_pd2 rfl) rfl (by show 2 * 0 + _ ≤ _; exact Nat.le_of_eq rfl) (hb hby at_181) (fun _ _ => ⟨rfl, e135, (by decide : 3 + 0 ≤ _), (by decide : 6 + 0 ≤ _)⟩)
            dsimp only [Pt.U, Pt.locs, Pt.cells, Pt.slots] at X139 l139 y139 z139 st139 hQ139
            subst l139 y139 z139
            obtain ⟨rfl, N139q, e139⟩ := hQ139
            have N139 := Fr.app N135 N139q
            refine OGo.of st139 ?_
            show OGo p e below _ (T139.setTop (mkF m 184 #[.val (.int i0), .val (.long i1), .second, .val (.int i2), .val (.int ((i0 &&& (2147483647 : Int32)) % (6 : Int32))), .val (.ref w_MEMBERS), .val (.long (0 : Int64)), .second, .val (.long (1000 : Int64)), .second, .val (.long ((0 : Int64) + ((i1 &&& (9223372036854775807 : Int64)) - ((i1 &&& (9223372036854775807 : Int64)) / (((1000 : Int64) - (0 : Int64)) + (1 : Int64))) * (((1000 : Int64) - (0 : Int64)) + (1 : Int64))))), .second, .val (.ref b115)] [(.int (0 : Int32))]))
            refine OGo.by (fun _ k => XS.i2l X139.here hx rfl (hb hby at_184) rfl k) ?_
            show OGo p e below _ (T139.setTop (mkF m 185 #[.val (.int i0), .val (.long i1), .second, .val (.int i2), .val (.int ((i0 &&& (2147483647 : Int32)) % (6 : Int32))), .val (.ref w_MEMBERS), .val (.long (0 : Int64)), .second, .val (.long (1000 : Int64)), .second, .val (.long ((0 : Int64) + ((i1 &&& (9223372036854775807 : Int64)) - ((i1 &&& (9223372036854775807 : Int64)) / (((1000 : Int64) - (0 : Int64)) + (1 : Int64))) * (((1000 : Int64) - (0 : Int64)) + (1 : Int64))))), .second, .val (.ref b115)] [(.long ((0 : Int32).toInt64))]))
            refine OGo.by (fun _ k => XS.lload X139.here hx rfl (hb hby at_185) rfl k) ?_
            show OGo p e below _ (T139.setTop (mkF m 187 #[.val (.int i0), .val (.long i1), .second, .val (.int i2), .val (.int ((i0 &&& (2147483647 : Int32)) % (6 : Int32))), .val (.ref w_MEMBERS), .val (.long (0 : Int64)), .second, .val (.long (1000 : Int64)), .second, .val (.long ((0 : Int64) + ((i1 &&& (9223372036854775807 : Int64)) - ((i1 &&& (9223372036854775807 : Int64)) / (((1000 : Int64) - (0 : Int64)) + (1 : Int64))) * (((1000 : Int64) - (0 : Int64)) + (1 : Int64))))), .second, .val (.ref b115)] [(.long (0 : Int64)), (.long ((0 : Int32).toInt64))]))
            refine OGo.by (fun _ k => XS.lcmp X139.here hx rfl (hb hby at_187) rfl k) ?_
            show OGo p e below _ (T139.setTop (mkF m 188 #[.val (.int i0), .val (.long i1), .second, .val (.int i2), .val (.int ((i0 &&& (2147483647 : Int32)) % (6 : Int32))), .val (.ref w_MEMBERS), .val (.long (0 : Int64)), .second, .val (.long (1000 : Int64)), .second, .val (.long ((0 : Int64) + ((i1 &&& (9223372036854775807 : Int64)) - ((i1 &&& (9223372036854775807 : Int64)) / (((1000 : Int64) - (0 : Int64)) + (1 : Int64))) * (((1000 : Int64) - (0 : Int64)) + (1 : Int64))))), .second, .val (.ref b115)] [(.int (lcmpW ((0 : Int32).toInt64) (0 : Int64)))]))
            refine OGo.by (fun _ k => XS.ifNo X139.here hx rfl (hb hby at_188) rfl ((if0 _ _).trans (teq ((lw_eq _ _).mpr (by decide : ((0 : Int32).toInt64) = (0 : Int64)))).2) k) ?_
            show OGo p e below _ (T139.setTop (mkF m 191 #[.val (.int i0), .val (.long i1), .second, .val (.int i2), .val (.int ((i0 &&& (2147483647 : Int32)) % (6 : Int32))), .val (.ref w_MEMBERS), .val (.long (0 : Int64)), .second, .val (.long (1000 : Int64)), .second, .val (.long ((0 : Int64) + ((i1 &&& (9223372036854775807 : Int64)) - ((i1 &&& (9223372036854775807 : Int64)) / (((1000 : Int64) - (0 : Int64)) + (1 : Int64))) * (((1000 : Int64) - (0 : Int64)) + (1 : Int64))))), .second, .val (.ref b115)] []))
            refine OGo.by (fun _ k => XS.aload X139.here hx rfl (hb hby at_191) rfl rfl k) ?_
            show OGo p e below _ (T139.setTop (mkF m 193 #[.val (.int i0), .val (.long i1), .second, .val (.int i2), .val (.int ((i0 &&& (2147483647 : Int32)) % (6 : Int32))), .val (.ref w_MEMBERS), .val (.long (0 : Int64)), .second, .val (.long (1000 : Int64)), .second, .val (.long ((0 : Int64) + ((i1 &&& (9223372036854775807 : Int64)) - ((i1 &&& (9223372036854775807 : Int64)) / (((1000 : Int64) - (0 : Int64)) + (1 : Int64))) * (((1000 : Int64) - (0 : Int64)) + (1 : Int64))))), .second, .val (.ref b115)] [(.ref w_MEMBERS)]))
            obtain ⟨cq140, kq140, q140a, q140b, q140c⟩ := isOf hZ e139 f138
            obtain ⟨_, _, ⟨T140, L140, k140, n140⟩, -, X140, ⟨Lc140, hQ140, l140, y140, z140⟩, st140⟩ := X139.virtualBack hx (y := (⟨"com/example/kept_inbox/keptinbox/Limit", "max", "()I"⟩ : MethodName)) (z := (⟨"com/example/kept_inbox/keptinbox/Limit", "max", "()I"⟩ : MethodName)) hown (mvT hZ (hw _ (List.mem_of_getElem? (i := 50) rfl))) (mvT hZ (hw _ (List.mem_of_getElem? (i := 51) rfl))) (notFace_of_selects (args := #[]) (mvT hZ (hw _ (List.mem_of_getElem? (i := 53) rfl)))) (mvT hZ (hw _ (List.mem_of_getElem? (i := 53) rfl))) (mvT hZ (hw _ (List.mem_of_getElem? (i := 52) rfl))) (by decide) (backOf (W := 0) (rm9 l Z av0 hw [] w_MEMBERS (1000 : Int32) T124.heap n0 (Nat.le_trans Z0 K124.1) f137) hZ (hw _ (List.mem_of_getElem? (i := 54) rfl)) (hw _ (List.mem_of_getElem? (i := 2) rfl)) (by decide) (by decide)) q140a q140c (g := (mkF m 193 #[.val (.int i0), .val (.long i1), .second, .val (.int i2), .val (.int ((i0 &&& (2147483647 : Int32)) % (6 : Int32))), .val (.ref w_MEMBERS), .val (.long (0 : Int64)), .second, .val (.long (1000 : Int64)), .second, .val (.long ((0 : Int64) + ((i1 &&& (9223372036854775807 : Int64)) - ((i1 &&& (9223372036854775807 : Int64)) / (((1000 : Int64) - (0 : Int64)) + (1 : Int64))) * (((1000 : Int64) - (0 : Int64)) + (1 : Int64))))), .second, .val (.ref b115)] [(.ref w_MEMBERS)])) rfl (by rw [hml]; rfl) (Steps.refl _) (argsL := []) (rest := []) (lenOf own_pd2 rfl) rfl (by show 2 * 0 + _ ≤ _; exact Nat.le_of_eq rfl) (hb hby at_193) (fun _ _ => ⟨rfl, e139, (by decide : 3 + 0 ≤ _), (by decide : 6 + 0 ≤ _)⟩)
            dsimp only [Pt.U, Pt.locs, Pt.cells, Pt.slots] at X140 l140 y140 z140 st140 hQ140
            subst l140 y140 z140
            obtain ⟨rfl, N140q, e140⟩ := hQ140
            have N140 := Fr.app N139 N140q
            refine OGo.of st140 ?_
            show OGo p e below _ (T140.setTop (mkF m 196 #[.val (.int i0), .val (.long i1), .second, .val (.int i2), .val (.int ((i0 &&& (2147483647 : Int32)) % (6 : Int32))), .val (.ref w_MEMBERS), .val (.long (0 : Int64)), .second, .val (.long (1000 : Int64)), .second, .val (.long ((0 : Int64) + ((i1 &&& (9223372036854775807 : Int64)) - ((i1 &&& (9223372036854775807 : Int64)) / (((1000 : Int64) - (0 : Int64)) + (1 : Int64))) * (((1000 : Int64) - (0 : Int64)) + (1 : Int64))))), .second, .val (.ref b115)] [(.int (1000 : Int32))]))
            refine OGo.by (fun _ k => XS.i2l X140.here hx rfl (hb hby at_196) rfl k) ?_
            show OGo p e below _ (T140.setTop (mkF m 197 #[.val (.int i0), .val (.long i1), .second, .val (.int i2), .val (.int ((i0 &&& (2147483647 : Int32)) % (6 : Int32))), .val (.ref w_MEMBERS), .val (.long (0 : Int64)), .second, .val (.long (1000 : Int64)), .second, .val (.long ((0 : Int64) + ((i1 &&& (9223372036854775807 : Int64)) - ((i1 &&& (9223372036854775807 : Int64)) / (((1000 : Int64) - (0 : Int64)) + (1 : Int64))) * (((1000 : Int64) - (0 : Int64)) + (1 : Int64))))), .second, .val (.ref b115)] [(.long ((1000 : Int32).toInt64))]))
            refine OGo.by (fun _ k => XS.lload X140.here hx rfl (hb hby at_197) rfl k) ?_
            show OGo p e below _ (T140.setTop (mkF m 199 #[.val (.int i0), .val (.long i1), .second, .val (.int i2), .val (.int ((i0 &&& (2147483647 : Int32)) % (6 : Int32))), .val (.ref w_MEMBERS), .val (.long (0 : Int64)), .second, .val (.long (1000 : Int64)), .second, .val (.long ((0 : Int64) + ((i1 &&& (9223372036854775807 : Int64)) - ((i1 &&& (9223372036854775807 : Int64)) / (((1000 : Int64) - (0 : Int64)) + (1 : Int64))) * (((1000 : Int64) - (0 : Int64)) + (1 : Int64))))), .second, .val (.ref b115)] [(.long (1000 : Int64)), (.long ((1000 : Int32).toInt64))]))
            refine OGo.by (fun _ k => XS.lcmp X140.here hx rfl (hb hby at_199) rfl k) ?_
            show OGo p e below _ (T140.setTop (mkF m 200 #[.val (.int i0), .val (.long i1), .second, .val (.int i2), .val (.int ((i0 &&& (2147483647 : Int32)) % (6 : Int32))), .val (.ref w_MEMBERS), .val (.long (0 : Int64)), .second, .val (.long (1000 : Int64)), .second, .val (.long ((0 : Int64) + ((i1 &&& (9223372036854775807 : Int64)) - ((i1 &&& (9223372036854775807 : Int64)) / (((1000 : Int64) - (0 : Int64)) + (1 : Int64))) * (((1000 : Int64) - (0 : Int64)) + (1 : Int64))))), .second, .val (.ref b115)] [(.int (lcmpW ((1000 : Int32).toInt64) (1000 : Int64)))]))
            refine OGo.by (fun _ k => XS.ifNo X140.here hx rfl (hb hby at_200) rfl ((if0 _ _).trans (teq ((lw_eq _ _).mpr (by decide : ((1000 : Int32).toInt64) = (1000 : Int64)))).2) k) ?_
            show OGo p e below _ (T140.setTop (mkF m 203 #[.val (.int i0), .val (.long i1), .second, .val (.int i2), .val (.int ((i0 &&& (2147483647 : Int32)) % (6 : Int32))), .val (.ref w_MEMBERS), .val (.long (0 : Int64)), .second, .val (.long (1000 : Int64)), .second, .val (.long ((0 : Int64) + ((i1 &&& (9223372036854775807 : Int64)) - ((i1 &&& (9223372036854775807 : Int64)) / (((1000 : Int64) - (0 : Int64)) + (1 : Int64))) * (((1000 : Int64) - (0 : Int64)) + (1 : Int64))))), .second, .val (.ref b115)] []))
            refine OGo.by (fun _ k => XS.lload X140.here hx rfl (hb hby at_203) rfl k) ?_
            show OGo p e below _ (T140.setTop (mkF m 205 #[.val (.int i0), .val (.long i1), .second, .val (.int i2), .val (.int ((i0 &&& (2147483647 : Int32)) % (6 : Int32))), .val (.ref w_MEMBERS), .val (.long (0 : Int64)), .second, .val (.long (1000 : Int64)), .second, .val (.long ((0 : Int64) + ((i1 &&& (9223372036854775807 : Int64)) - ((i1 &&& (9223372036854775807 : Int64)) / (((1000 : Int64) - (0 : Int64)) + (1 : Int64))) * (((1000 : Int64) - (0 : Int64)) + (1 : Int64))))), .second, .val (.ref b115)] [(.long ((0 : Int64) + ((i1 &&& (9223372036854775807 : Int64)) - ((i1 &&& (9223372036854775807 : Int64)) / (((1000 : Int64) - (0 : Int64)) + (1 : Int64))) * (((1000 : Int64) - (0 : Int64)) + (1 : Int64)))))]))
            refine OGo.by (fun _ k => XS.lload X140.here hx rfl (hb hby at_205) rfl k) ?_
            show OGo p e below _ (T140.setTop (mkF m 207 #[.val (.int i0), .val (.long i1), .second, .val (.int i2), .val (.int ((i0 &&& (2147483647 : Int32)) % (6 : Int32))), .val (.ref w_MEMBERS), .val (.long (0 : Int64)), .second, .val (.long (1000 : Int64)), .second, .val (.long ((0 : Int64) + ((i1 &&& (9223372036854775807 : Int64)) - ((i1 &&& (9223372036854775807 : Int64)) / (((1000 : Int64) - (0 : Int64)) + (1 : Int64))) * (((1000 : Int64) - (0 : Int64)) + (1 : Int64))))), .second, .val (.ref b115)] [(.long (0 : Int64)), (.long ((0 : Int64) + ((i1 &&& (9223372036854775807 : Int64)) - ((i1 &&& (9223372036854775807 : Int64)) / (((1000 : Int64) - (0 : Int64)) + (1 : Int64))) * (((1000 : Int64) - (0 : Int64)) + (1 : Int64)))))]))
            refine OGo.by (fun _ k => XS.lcmp X140.here hx rfl (hb hby at_207) rfl k) ?_
            show OGo p e below _ (T140.setTop (mkF m 208 #[.val (.int i0), .val (.long i1), .second, .val (.int i2), .val (.int ((i0 &&& (2147483647 : Int32)) % (6 : Int32))), .val (.ref w_MEMBERS), .val (.long (0 : Int64)), .second, .val (.long (1000 : Int64)), .second, .val (.long ((0 : Int64) + ((i1 &&& (9223372036854775807 : Int64)) - ((i1 &&& (9223372036854775807 : Int64)) / (((1000 : Int64) - (0 : Int64)) + (1 : Int64))) * (((1000 : Int64) - (0 : Int64)) + (1 : Int64))))), .second, .val (.ref b115)] [(.int (lcmpW ((0 : Int64) + ((i1 &&& (9223372036854775807 : Int64)) - ((i1 &&& (9223372036854775807 : Int64)) / (((1000 : Int64) - (0 : Int64)) + (1 : Int64))) * (((1000 : Int64) - (0 : Int64)) + (1 : Int64)))) (0 : Int64)))]))
            refine OGo.by (fun _ k => XS.ifNo X140.here hx rfl (hb hby at_208) rfl ((if0 _ _).trans (flt (mt (lw_lt _ _).mp (own_nlt (own_rng (hi := (1000 : Int64)) 0 1000 (by decide) (by decide) (by decide) (by decide) (by decide) (own_nn i1)).1 (by decide)))).1) k) ?_
            show OGo p e below _ (T140.setTop (mkF m 211 #[.val (.int i0), .val (.long i1), .second, .val (.int i2), .val (.int ((i0 &&& (2147483647 : Int32)) % (6 : Int32))), .val (.ref w_MEMBERS), .val (.long (0 : Int64)), .second, .val (.long (1000 : Int64)), .second, .val (.long ((0 : Int64) + ((i1 &&& (9223372036854775807 : Int64)) - ((i1 &&& (9223372036854775807 : Int64)) / (((1000 : Int64) - (0 : Int64)) + (1 : Int64))) * (((1000 : Int64) - (0 : Int64)) + (1 : Int64))))), .second, .val (.ref b115)] []))
            refine OGo.by (fun _ k => XS.lload X140.here hx rfl (hb hby at_211) rfl k) ?_
            show OGo p e below _ (T140.setTop (mkF m 213 #[.val (.int i0), .val (.long i1), .second, .val (.int i2), .val (.int ((i0 &&& (2147483647 : Int32)) % (6 : Int32))), .val (.ref w_MEMBERS), .val (.long (0 : Int64)), .second, .val (.long (1000 : Int64)), .second, .val (.long ((0 : Int64) + ((i1 &&& (9223372036854775807 : Int64)) - ((i1 &&& (9223372036854775807 : Int64)) / (((1000 : Int64) - (0 : Int64)) + (1 : Int64))) * (((1000 : Int64) - (0 : Int64)) + (1 : Int64))))), .second, .val (.ref b115)] [(.long ((0 : Int64) + ((i1 &&& (9223372036854775807 : Int64)) - ((i1 &&& (9223372036854775807 : Int64)) / (((1000 : Int64) - (0 : Int64)) + (1 : Int64))) * (((1000 : Int64) - (0 : Int64)) + (1 : Int64)))))]))
            refine OGo.by (fun _ k => XS.lload X140.here hx rfl (hb hby at_213) rfl k) ?_
            show OGo p e below _ (T140.setTop (mkF m 215 #[.val (.int i0), .val (.long i1), .second, .val (.int i2), .val (.int ((i0 &&& (2147483647 : Int32)) % (6 : Int32))), .val (.ref w_MEMBERS), .val (.long (0 : Int64)), .second, .val (.long (1000 : Int64)), .second, .val (.long ((0 : Int64) + ((i1 &&& (9223372036854775807 : Int64)) - ((i1 &&& (9223372036854775807 : Int64)) / (((1000 : Int64) - (0 : Int64)) + (1 : Int64))) * (((1000 : Int64) - (0 : Int64)) + (1 : Int64))))), .second, .val (.ref b115)] [(.long (1000 : Int64)), (.long ((0 : Int64) + ((i1 &&& (9223372036854775807 : Int64)) - ((i1 &&& (9223372036854775807 : Int64)) / (((1000 : Int64) - (0 : Int64)) + (1 : Int64))) * (((1000 : Int64) - (0 : Int64)) + (1 : Int64)))))]))
            refine OGo.by (fun _ k => XS.lcmp X140.here hx rfl (hb hby at_215) rfl k) ?_
            show OGo p e below _ (T140.setTop (mkF m 216 #[.val (.int i0), .val (.long i1), .second, .val (.int i2), .val (.int ((i0 &&& (2147483647 : Int32)) % (6 : Int32))), .val (.ref w_MEMBERS), .val (.long (0 : Int64)), .second, .val (.long (1000 : Int64)), .second, .val (.long ((0 : Int64) + ((i1 &&& (9223372036854775807 : Int64)) - ((i1 &&& (9223372036854775807 : Int64)) / (((1000 : Int64) - (0 : Int64)) + (1 : Int64))) * (((1000 : Int64) - (0 : Int64)) + (1 : Int64))))), .second, .val (.ref b115)] [(.int (lcmpW ((0 : Int64) + ((i1 &&& (9223372036854775807 : Int64)) - ((i1 &&& (9223372036854775807 : Int64)) / (((1000 : Int64) - (0 : Int64)) + (1 : Int64))) * (((1000 : Int64) - (0 : Int64)) + (1 : Int64)))) (1000 : Int64)))]))
            refine OGo.by (fun _ k => XS.ifNo X140.here hx rfl (hb hby at_216) rfl ((if0 _ _).trans (flt (mt (lw_gt _ _).mp (own_ngt (own_rng (hi := (1000 : Int64)) 0 1000 (by decide) (by decide) (by decide) (by decide) (by decide) (own_nn i1)).2 (by decide)))).2.2.1) k) ?_
            show OGo p e below _ (T140.setTop (mkF m 219 #[.val (.int i0), .val (.long i1), .second, .val (.int i2), .val (.int ((i0 &&& (2147483647 : Int32)) % (6 : Int32))), .val (.ref w_MEMBERS), .val (.long (0 : Int64)), .second, .val (.long (1000 : Int64)), .second, .val (.long ((0 : Int64) + ((i1 &&& (9223372036854775807 : Int64)) - ((i1 &&& (9223372036854775807 : Int64)) / (((1000 : Int64) - (0 : Int64)) + (1 : Int64))) * (((1000 : Int64) - (0 : Int64)) + (1 : Int64))))), .second, .val (.ref b115)] []))
            refine OGo.by (fun _ k => XS.iconst X140.here hx rfl (hb hby at_219) k) ?_
            show OGo p e below _ (T140.setTop (mkF m 220 #[.val (.int i0), .val (.long i1), .second, .val (.int i2), .val (.int ((i0 &&& (2147483647 : Int32)) % (6 : Int32))), .val (.ref w_MEMBERS), .val (.long (0 : Int64)), .second, .val (.long (1000 : Int64)), .second, .val (.long ((0 : Int64) + ((i1 &&& (9223372036854775807 : Int64)) - ((i1 &&& (9223372036854775807 : Int64)) / (((1000 : Int64) - (0 : Int64)) + (1 : Int64))) * (((1000 : Int64) - (0 : Int64)) + (1 : Int64))))), .second, .val (.ref b115)] [(.int (1 : Int32))]))
            refine OGo.by (fun _ k => XS.goto X140.here hx rfl (pc0 := 220) (pc' := 224) rfl (hb hby at_220) (by decide) (by decide) k) ?_
            show OGo p e below _ (T140.setTop (mkF m 224 #[.val (.int i0), .val (.long i1), .second, .val (.int i2), .val (.int ((i0 &&& (2147483647 : Int32)) % (6 : Int32))), .val (.ref w_MEMBERS), .val (.long (0 : Int64)), .second, .val (.long (1000 : Int64)), .second, .val (.long ((0 : Int64) + ((i1 &&& (9223372036854775807 : Int64)) - ((i1 &&& (9223372036854775807 : Int64)) / (((1000 : Int64) - (0 : Int64)) + (1 : Int64))) * (((1000 : Int64) - (0 : Int64)) + (1 : Int64))))), .second, .val (.ref b115)] [(.int (1 : Int32))]))
            obtain ⟨fs, hr, hrun, hended, hW, hsame⟩ := X140.leave (v := some (.int (1 : Int32))) (fun h => by rw [Bd.returns] at h; cases h)
            refine OGo.ret (retN X140 hx (t := .boolean) Bd.returns (by simp) (hb hby at_224) hr) hrun hended ⟨_, _, rfl, ?_, ⟨_, rfl⟩, hW, hsame.mono (by decide) (by decide)⟩
            show Q_rm0 Z i0 i1 i2 w_NAME w_TITLE w_BODY w_RECIPIENTS w_MEMBERS w_SUBSCRIBER_IDS cz h0 n0 _ T140.heap _
            rw [e140]
            exact ⟨rfl, N140⟩
          · refine OGo.by (fun _ k => XS.icmpYes X0.here hx rfl (pc0 := 99) (pc' := 118) rfl (hb hby at_99) rfl (feq hc99_113).2 (by decide) (by decide) k) ?_
            show OGo p e below _ (s₁.setTop (mkF m 118 #[.val (.int i0), .val (.long i1), .second, .val (.int i2), .val (.int ((i0 &&& (2147483647 : Int32)) % (6 : Int32))), .unset, .unset, .unset, .unset, .unset, .unset, .unset, .unset] []))
            obtain ⟨T141, X141, e141, st141⟩ := getS2 X0 hx hZ hown (host := "") (Or.inl (hw _ (List.mem_of_getElem? (i := 66) rfl))) Via.refl e0 (S_SUBSCRIBER_IDS.ext O0.2) (g := (mkF m 118 #[.val (.int i0), .val (.long i1), .second, .val (.int i2), .val (.int ((i0 &&& (2147483647 : Int32)) % (6 : Int32))), .unset, .unset, .unset, .unset, .unset, .unset, .unset, .unset] [])) rfl (hb hby at_118)
            refine OGo.by st141 ?_
            show OGo p e below _ (T141.setTop (mkF m 121 #[.val (.int i0), .val (.long i1), .second, .val (.int i2), .val (.int ((i0 &&& (2147483647 : Int32)) % (6 : Int32))), .unset, .unset, .unset, .unset, .unset, .unset, .unset, .unset] [(.ref w_SUBSCRIBER_IDS)]))
            refine OGo.by (fun _ k => XS.astore X141.here hx rfl (hb hby at_121) rfl rfl (l' := #[.val (.int i0), .val (.long i1), .second, .val (.int i2), .val (.int ((i0 &&& (2147483647 : Int32)) % (6 : Int32))), .val (.ref w_SUBSCRIBER_IDS), .unset, .unset, .unset, .unset, .unset, .unset, .unset]) rfl k) ?_
            show OGo p e below _ (T141.setTop (mkF m 123 #[.val (.int i0), .val (.long i1), .second, .val (.int i2), .val (.int ((i0 &&& (2147483647 : Int32)) % (6 : Int32))), .val (.ref w_SUBSCRIBER_IDS), .unset, .unset, .unset, .unset, .unset, .unset, .unset] []))
            refine OGo.by (fun _ k => XS.lconst X141.here hx rfl (hb hby at_123) k) ?_
            show OGo p e below _ (T141.setTop (mkF m 124 #[.val (.int i0), .val (.long i1), .second, .val (.int i2), .val (.int ((i0 &&& (2147483647 : Int32)) % (6 : Int32))), .val (.ref w_SUBSCRIBER_IDS), .unset, .unset, .unset, .unset, .unset, .unset, .unset] [(.long (1 : Int64))]))
            refine OGo.by (fun _ k => XS.lstore X141.here hx rfl (hb hby at_124) rfl (l' := #[.val (.int i0), .val (.long i1), .second, .val (.int i2), .val (.int ((i0 &&& (2147483647 : Int32)) % (6 : Int32))), .val (.ref w_SUBSCRIBER_IDS), .val (.long (1 : Int64)), .second, .unset, .unset, .unset, .unset, .unset]) rfl k) ?_
            show OGo p e below _ (T141.setTop (mkF m 126 #[.val (.int i0), .val (.long i1), .second, .val (.int i2), .val (.int ((i0 &&& (2147483647 : Int32)) % (6 : Int32))), .val (.ref w_SUBSCRIBER_IDS), .val (.long (1 : Int64)), .second, .unset, .unset, .unset, .unset, .unset] []))
            refine OGo.by (X141.ldc2Long hx hown (mvT hZ (hw _ (List.mem_of_getElem? (i := 60) rfl))) (g := (mkF m 126 #[.val (.int i0), .val (.long i1), .second, .val (.int i2), .val (.int ((i0 &&& (2147483647 : Int32)) % (6 : Int32))), .val (.ref w_SUBSCRIBER_IDS), .val (.long (1 : Int64)), .second, .unset, .unset, .unset, .unset, .unset] [])) rfl (hb hby at_126)) ?_
            show OGo p e below _ (T141.setTop (mkF m 129 #[.val (.int i0), .val (.long i1), .second, .val (.int i2), .val (.int ((i0 &&& (2147483647 : Int32)) % (6 : Int32))), .val (.ref w_SUBSCRIBER_IDS), .val (.long (1 : Int64)), .second, .unset, .unset, .unset, .unset, .unset] [(.long (1000 : Int64))]))
            refine OGo.by (fun _ k => XS.lstore X141.here hx rfl (hb hby at_129) rfl (l' := #[.val (.int i0), .val (.long i1), .second, .val (.int i2), .val (.int ((i0 &&& (2147483647 : Int32)) % (6 : Int32))), .val (.ref w_SUBSCRIBER_IDS), .val (.long (1 : Int64)), .second, .val (.long (1000 : Int64)), .second, .unset, .unset, .unset]) rfl k) ?_
            show OGo p e below _ (T141.setTop (mkF m 131 #[.val (.int i0), .val (.long i1), .second, .val (.int i2), .val (.int ((i0 &&& (2147483647 : Int32)) % (6 : Int32))), .val (.ref w_SUBSCRIBER_IDS), .val (.long (1 : Int64)), .second, .val (.long (1000 : Int64)), .second, .unset, .unset, .unset] []))
            refine OGo.by (fun _ k => XS.lload X141.here hx rfl (hb hby at_131) rfl k) ?_
            show OGo p e below _ (T141.setTop (mkF m 133 #[.val (.int i0), .val (.long i1), .second, .val (.int i2), .val (.int ((i0 &&& (2147483647 : Int32)) % (6 : Int32))), .val (.ref w_SUBSCRIBER_IDS), .val (.long (1 : Int64)), .second, .val (.long (1000 : Int64)), .second, .unset, .unset, .unset] [(.long (1 : Int64))]))
            refine OGo.by (fun _ k => XS.lloadN X141.here hx rfl (hb hby at_133) rfl k) ?_
            show OGo p e below _ (T141.setTop (mkF m 134 #[.val (.int i0), .val (.long i1), .second, .val (.int i2), .val (.int ((i0 &&& (2147483647 : Int32)) % (6 : Int32))), .val (.ref w_SUBSCRIBER_IDS), .val (.long (1 : Int64)), .second, .val (.long (1000 : Int64)), .second, .unset, .unset, .unset] [(.long i1), (.long (1 : Int64))]))
            refine OGo.by (X141.ldc2Long hx hown (mvT hZ (hw _ (List.mem_of_getElem? (i := 5) rfl))) (g := (mkF m 134 #[.val (.int i0), .val (.long i1), .second, .val (.int i2), .val (.int ((i0 &&& (2147483647 : Int32)) % (6 : Int32))), .val (.ref w_SUBSCRIBER_IDS), .val (.long (1 : Int64)), .second, .val (.long (1000 : Int64)), .second, .unset, .unset, .unset] [(.long i1), (.long (1 : Int64))])) rfl (hb hby at_134)) ?_
            show OGo p e below _ (T141.setTop (mkF m 137 #[.val (.int i0), .val (.long i1), .second, .val (.int i2), .val (.int ((i0 &&& (2147483647 : Int32)) % (6 : Int32))), .val (.ref w_SUBSCRIBER_IDS), .val (.long (1 : Int64)), .second, .val (.long (1000 : Int64)), .second, .unset, .unset, .unset] [(.long (9223372036854775807 : Int64)), (.long i1), (.long (1 : Int64))]))
            refine OGo.by (fun _ k => XS.land X141.here hx rfl (hb hby at_137) rfl k) ?_
            show OGo p e below _ (T141.setTop (mkF m 138 #[.val (.int i0), .val (.long i1), .second, .val (.int i2), .val (.int ((i0 &&& (2147483647 : Int32)) % (6 : Int32))), .val (.ref w_SUBSCRIBER_IDS), .val (.long (1 : Int64)), .second, .val (.long (1000 : Int64)), .second, .unset, .unset, .unset] [(.long (i1 &&& (9223372036854775807 : Int64))), (.long (1 : Int64))]))
            refine OGo.by (fun _ k => XS.lload X141.here hx rfl (hb hby at_138) rfl k) ?_
            show OGo p e below _ (T141.setTop (mkF m 140 #[.val (.int i0), .val (.long i1), .second, .val (.int i2), .val (.int ((i0 &&& (2147483647 : Int32)) % (6 : Int32))), .val (.ref w_SUBSCRIBER_IDS), .val (.long (1 : Int64)), .second, .val (.long (1000 : Int64)), .second, .unset, .unset, .unset] [(.long (1000 : Int64)), (.long (i1 &&& (9223372036854775807 : Int64))), (.long (1 : Int64))]))
            refine OGo.by (fun _ k => XS.lload X141.here hx rfl (hb hby at_140) rfl k) ?_
            show OGo p e below _ (T141.setTop (mkF m 142 #[.val (.int i0), .val (.long i1), .second, .val (.int i2), .val (.int ((i0 &&& (2147483647 : Int32)) % (6 : Int32))), .val (.ref w_SUBSCRIBER_IDS), .val (.long (1 : Int64)), .second, .val (.long (1000 : Int64)), .second, .unset, .unset, .unset] [(.long (1 : Int64)), (.long (1000 : Int64)), (.long (i1 &&& (9223372036854775807 : Int64))), (.long (1 : Int64))]))
            refine OGo.by (fun _ k => XS.lsub X141.here hx rfl (hb hby at_142) rfl k) ?_
            show OGo p e below _ (T141.setTop (mkF m 143 #[.val (.int i0), .val (.long i1), .second, .val (.int i2), .val (.int ((i0 &&& (2147483647 : Int32)) % (6 : Int32))), .val (.ref w_SUBSCRIBER_IDS), .val (.long (1 : Int64)), .second, .val (.long (1000 : Int64)), .second, .unset, .unset, .unset] [(.long ((1000 : Int64) - (1 : Int64))), (.long (i1 &&& (9223372036854775807 : Int64))), (.long (1 : Int64))]))
            refine OGo.by (fun _ k => XS.lconst X141.here hx rfl (hb hby at_143) k) ?_
            show OGo p e below _ (T141.setTop (mkF m 144 #[.val (.int i0), .val (.long i1), .second, .val (.int i2), .val (.int ((i0 &&& (2147483647 : Int32)) % (6 : Int32))), .val (.ref w_SUBSCRIBER_IDS), .val (.long (1 : Int64)), .second, .val (.long (1000 : Int64)), .second, .unset, .unset, .unset] [(.long (1 : Int64)), (.long ((1000 : Int64) - (1 : Int64))), (.long (i1 &&& (9223372036854775807 : Int64))), (.long (1 : Int64))]))
            refine OGo.by (fun _ k => XS.ladd X141.here hx rfl (hb hby at_144) rfl k) ?_
            show OGo p e below _ (T141.setTop (mkF m 145 #[.val (.int i0), .val (.long i1), .second, .val (.int i2), .val (.int ((i0 &&& (2147483647 : Int32)) % (6 : Int32))), .val (.ref w_SUBSCRIBER_IDS), .val (.long (1 : Int64)), .second, .val (.long (1000 : Int64)), .second, .unset, .unset, .unset] [(.long (((1000 : Int64) - (1 : Int64)) + (1 : Int64))), (.long (i1 &&& (9223372036854775807 : Int64))), (.long (1 : Int64))]))
            refine OGo.by (fun _ k => XS.lrem X141.here hx rfl (hb hby at_145) rfl (by decide) k) ?_
            show OGo p e below _ (T141.setTop (mkF m 146 #[.val (.int i0), .val (.long i1), .second, .val (.int i2), .val (.int ((i0 &&& (2147483647 : Int32)) % (6 : Int32))), .val (.ref w_SUBSCRIBER_IDS), .val (.long (1 : Int64)), .second, .val (.long (1000 : Int64)), .second, .unset, .unset, .unset] [(.long ((i1 &&& (9223372036854775807 : Int64)) - ((i1 &&& (9223372036854775807 : Int64)) / (((1000 : Int64) - (1 : Int64)) + (1 : Int64))) * (((1000 : Int64) - (1 : Int64)) + (1 : Int64)))), (.long (1 : Int64))]))
            refine OGo.by (fun _ k => XS.ladd X141.here hx rfl (hb hby at_146) rfl k) ?_
            show OGo p e below _ (T141.setTop (mkF m 147 #[.val (.int i0), .val (.long i1), .second, .val (.int i2), .val (.int ((i0 &&& (2147483647 : Int32)) % (6 : Int32))), .val (.ref w_SUBSCRIBER_IDS), .val (.long (1 : Int64)), .second, .val (.long (1000 : Int64)), .second, .unset, .unset, .unset] [(.long ((1 : Int64) + ((i1 &&& (9223372036854775807 : Int64)) - ((i1 &&& (9223372036854775807 : Int64)) / (((1000 : Int64) - (1 : Int64)) + (1 : Int64))) * (((1000 : Int64) - (1 : Int64)) + (1 : Int64)))))]))
            refine OGo.by (fun _ k => XS.lstore X141.here hx rfl (hb hby at_147) rfl (l' := #[.val (.int i0), .val (.long i1), .second, .val (.int i2), .val (.int ((i0 &&& (2147483647 : Int32)) % (6 : Int32))), .val (.ref w_SUBSCRIBER_IDS), .val (.long (1 : Int64)), .second, .val (.long (1000 : Int64)), .second, .val (.long ((1 : Int64) + ((i1 &&& (9223372036854775807 : Int64)) - ((i1 &&& (9223372036854775807 : Int64)) / (((1000 : Int64) - (1 : Int64)) + (1 : Int64))) * (((1000 : Int64) - (1 : Int64)) + (1 : Int64))))), .second, .unset]) rfl k) ?_
            show OGo p e below _ (T141.setTop (mkF m 149 #[.val (.int i0), .val (.long i1), .second, .val (.int i2), .val (.int ((i0 &&& (2147483647 : Int32)) % (6 : Int32))), .val (.ref w_SUBSCRIBER_IDS), .val (.long (1 : Int64)), .second, .val (.long (1000 : Int64)), .second, .val (.long ((1 : Int64) + ((i1 &&& (9223372036854775807 : Int64)) - ((i1 &&& (9223372036854775807 : Int64)) / (((1000 : Int64) - (1 : Int64)) + (1 : Int64))) * (((1000 : Int64) - (1 : Int64)) + (1 : Int64))))), .second, .unset] []))
            obtain ⟨T142, h142, X142, e142, E142, A142, D142, U142, st142⟩ := newO X141 hx hZ hown (hw _ (List.mem_of_getElem? (i := 6) rfl)) (hw _ (List.mem_of_getElem? (i := 7) rfl)) (hw _ (List.mem_of_getElem? (i := 8) rfl)) e141 (g := (mkF m 149 #[.val (.int i0), .val (.long i1), .second, .val (.int i2), .val (.int ((i0 &&& (2147483647 : Int32)) % (6 : Int32))), .val (.ref w_SUBSCRIBER_IDS), .val (.long (1 : Int64)), .second, .val (.long (1000 : Int64)), .second, .val (.long ((1 : Int64) + ((i1 &&& (9223372036854775807 : Int64)) - ((i1 &&& (9223372036854775807 : Int64)) / (((1000 : Int64) - (1 : Int64)) + (1 : Int64))) * (((1000 : Int64) - (1 : Int64)) + (1 : Int64))))), .second, .unset] [])) rfl (hb hby at_149) (by decide) (by decide)
            obtain ⟨b142, g142⟩ : ∃ z, z = h0.size := ⟨_, rfl⟩
            rw [← g142] at A142 D142 U142 st142
            have ne_w_NAME_b142 : w_NAME ≠ b142 := Nat.ne_of_lt (Nat.lt_of_lt_of_le E_NAME.lt (Nat.le_of_eq g142.symm))
            have ne_w_TITLE_b142 : w_TITLE ≠ b142 := Nat.ne_of_lt (Nat.lt_of_lt_of_le E_TITLE.lt (Nat.le_of_eq g142.symm))
            have ne_w_BODY_b142 : w_BODY ≠ b142 := Nat.ne_of_lt (Nat.lt_of_lt_of_le E_BODY.lt (Nat.le_of_eq g142.symm))
            have ne_w_RECIPIENTS_b142 : w_RECIPIENTS ≠ b142 := Nat.ne_of_lt (Nat.lt_of_lt_of_le E_RECIPIENTS.lt (Nat.le_of_eq g142.symm))
            have ne_w_MEMBERS_b142 : w_MEMBERS ≠ b142 := Nat.ne_of_lt (Nat.lt_of_lt_of_le E_MEMBERS.lt (Nat.le_of_eq g142.symm))
            have ne_w_SUBSCRIBER_IDS_b142 : w_SUBSCRIBER_IDS ≠ b142 := Nat.ne_of_lt (Nat.lt_of_lt_of_le E_SUBSCRIBER_IDS.lt (Nat.le_of_eq g142.symm))
            have g_b142 : n0 ≤ b142 := Nat.le_trans Z0 (Nat.le_of_eq g142.symm)
            have sz_b142 : h0.size ≤ b142 := Nat.le_trans (Nat.le_refl _) (Nat.le_of_eq g142.symm)
            refine OGo.by st142 ?_
            have K142 : Keep h0 h142 [] := ((Keep.refl h0 [])).ext E142
            have F142_coder : Fld Z h142 b142 "java/lang/String" "coder" "B" (.int (0 : Int32)) := D142 (Or.inr (hw _ (List.mem_of_getElem? (i := 33) rfl))) (ty := .byte) (by decide)
            have F142_value : Fld Z h142 b142 "java/lang/String" "value" "[B" .null := D142 (Or.inr (hw _ (List.mem_of_getElem? (i := 35) rfl))) (ty := (.array .byte)) (by decide)
            show OGo p e below _ (T142.setTop (mkF m 152 #[.val (.int i0), .val (.long i1), .second, .val (.int i2), .val (.int ((i0 &&& (2147483647 : Int32)) % (6 : Int32))), .val (.ref w_SUBSCRIBER_IDS), .val (.long (1 : Int64)), .second, .val (.long (1000 : Int64)), .second, .val (.long ((1 : Int64) + ((i1 &&& (9223372036854775807 : Int64)) - ((i1 &&& (9223372036854775807 : Int64)) / (((1000 : Int64) - (1 : Int64)) + (1 : Int64))) * (((1000 : Int64) - (1 : Int64)) + (1 : Int64))))), .second, .unset] [(.ref b142)]))
            refine OGo.by (fun _ k => XS.dup X142.here hx rfl (hb hby at_152) rfl rfl k) ?_
            show OGo p e below _ (T142.setTop (mkF m 153 #[.val (.int i0), .val (.long i1), .second, .val (.int i2), .val (.int ((i0 &&& (2147483647 : Int32)) % (6 : Int32))), .val (.ref w_SUBSCRIBER_IDS), .val (.long (1 : Int64)), .second, .val (.long (1000 : Int64)), .second, .val (.long ((1 : Int64) + ((i1 &&& (9223372036854775807 : Int64)) - ((i1 &&& (9223372036854775807 : Int64)) / (((1000 : Int64) - (1 : Int64)) + (1 : Int64))) * (((1000 : Int64) - (1 : Int64)) + (1 : Int64))))), .second, .unset] [(.ref b142), (.ref b142)]))
            refine OGo.by (fun _ k => XS.iconst X142.here hx rfl (hb hby at_153) k) ?_
            show OGo p e below _ (T142.setTop (mkF m 154 #[.val (.int i0), .val (.long i1), .second, .val (.int i2), .val (.int ((i0 &&& (2147483647 : Int32)) % (6 : Int32))), .val (.ref w_SUBSCRIBER_IDS), .val (.long (1 : Int64)), .second, .val (.long (1000 : Int64)), .second, .val (.long ((1 : Int64) + ((i1 &&& (9223372036854775807 : Int64)) - ((i1 &&& (9223372036854775807 : Int64)) / (((1000 : Int64) - (1 : Int64)) + (1 : Int64))) * (((1000 : Int64) - (1 : Int64)) + (1 : Int64))))), .second, .unset] [(.int (1 : Int32)), (.ref b142), (.ref b142)]))
            obtain ⟨T143, h143, k143, X143, e143, E143, A143, st143⟩ := newP X142 hx hZ (hw _ (List.mem_of_getElem? (i := 9) rfl)) e142 (g := (mkF m 154 #[.val (.int i0), .val (.long i1), .second, .val (.int i2), .val (.int ((i0 &&& (2147483647 : Int32)) % (6 : Int32))), .val (.ref w_SUBSCRIBER_IDS), .val (.long (1 : Int64)), .second, .val (.long (1000 : Int64)), .second, .val (.long ((1 : Int64) + ((i1 &&& (9223372036854775807 : Int64)) - ((i1 &&& (9223372036854775807 : Int64)) / (((1000 : Int64) - (1 : Int64)) + (1 : Int64))) * (((1000 : Int64) - (1 : Int64)) + (1 : Int64))))), .second, .unset] [(.int (1 : Int32)), (.ref b142), (.ref b142)])) rfl (hb hby at_154) rfl (by decide : ¬ ((1 : Int32) < (0 : Int32))) (cap := 1) (by decide) (by decide) (by decide) (by decide)
            obtain ⟨b143, g143⟩ : ∃ z, z = h142.size := ⟨_, rfl⟩
            rw [← g143] at A143 st143
            have f144 : Exa Z h142 w_NAME "com/example/kept_inbox/keptinbox/Limit" := (E_NAME.ext E142)
            have ne_w_NAME_b143 : w_NAME ≠ b143 := Nat.ne_of_lt (Nat.lt_of_lt_of_le f144.lt (Nat.le_of_eq g143.symm))
            have f145 : Exa Z h142 w_TITLE "com/example/kept_inbox/keptinbox/Limit" := (E_TITLE.ext E142)
            have ne_w_TITLE_b143 : w_TITLE ≠ b143 := Nat.ne_of_lt (Nat.lt_of_lt_of_le f145.lt (Nat.le_of_eq g143.symm))
            have f146 : Exa Z h142 w_BODY "com/example/kept_inbox/keptinbox/Limit" := (E_BODY.ext E142)
            have ne_w_BODY_b143 : w_BODY ≠ b143 := Nat.ne_of_lt (Nat.lt_of_lt_of_le f146.lt (Nat.le_of_eq g143.symm))
            have f147 : Exa Z h142 w_RECIPIENTS "com/example/kept_inbox/keptinbox/Limit" := (E_RECIPIENTS.ext E142)
            have ne_w_RECIPIENTS_b143 : w_RECIPIENTS ≠ b143 := Nat.ne_of_lt (Nat.lt_of_lt_of_le f147.lt (Nat.le_of_eq g143.symm))
            have f148 : Exa Z h142 w_MEMBERS "com/example/kept_inbox/keptinbox/Limit" := (E_MEMBERS.ext E142)
            have ne_w_MEMBERS_b143 : w_MEMBERS ≠ b143 := Nat.ne_of_lt (Nat.lt_of_lt_of_le f148.lt (Nat.le_of_eq g143.symm))
            have f149 : Exa Z h142 w_SUBSCRIBER_IDS "com/example/kept_inbox/keptinbox/Limit" := (E_SUBSCRIBER_IDS.ext E142)
            have ne_w_SUBSCRIBER_IDS_b143 : w_SUBSCRIBER_IDS ≠ b143 := Nat.ne_of_lt (Nat.lt_of_lt_of_le f149.lt (Nat.le_of_eq g143.symm))
            have ne_b142_b143 : b142 ≠ b143 := Nat.ne_of_lt (Nat.lt_of_lt_of_le A142.lt (Nat.le_of_eq g143.symm))
            have g_b143 : n0 ≤ b143 := Nat.le_trans (Nat.le_trans Z0 K142.1) (Nat.le_of_eq g143.symm)
            have sz_b143 : h0.size ≤ b143 := Nat.le_trans K142.1 (Nat.le_of_eq g143.symm)
            refine OGo.by st143 ?_
            have K143 : Keep h0 h143 [] := (K142).ext E143
            have V143 : Arv Z h143 b143 k143 .char (1 : Int32) [(.int (0 : Int32))] (.int (0 : Int32)) := (Arv.new A143 (by decide)).pad (pad_rep [] (.int (0 : Int32)) 1)
            show OGo p e below _ (T143.setTop (mkF m 156 #[.val (.int i0), .val (.long i1), .second, .val (.int i2), .val (.int ((i0 &&& (2147483647 : Int32)) % (6 : Int32))), .val (.ref w_SUBSCRIBER_IDS), .val (.long (1 : Int64)), .second, .val (.long (1000 : Int64)), .second, .val (.long ((1 : Int64) + ((i1 &&& (9223372036854775807 : Int64)) - ((i1 &&& (9223372036854775807 : Int64)) / (((1000 : Int64) - (1 : Int64)) + (1 : Int64))) * (((1000 : Int64) - (1 : Int64)) + (1 : Int64))))), .second, .unset] [(.ref b143), (.ref b142), (.ref b142)]))
            refine OGo.by (fun _ k => XS.dup X143.here hx rfl (hb hby at_156) rfl rfl k) ?_
            show OGo p e below _ (T143.setTop (mkF m 157 #[.val (.int i0), .val (.long i1), .second, .val (.int i2), .val (.int ((i0 &&& (2147483647 : Int32)) % (6 : Int32))), .val (.ref w_SUBSCRIBER_IDS), .val (.long (1 : Int64)), .second, .val (.long (1000 : Int64)), .second, .val (.long ((1 : Int64) + ((i1 &&& (9223372036854775807 : Int64)) - ((i1 &&& (9223372036854775807 : Int64)) / (((1000 : Int64) - (1 : Int64)) + (1 : Int64))) * (((1000 : Int64) - (1 : Int64)) + (1 : Int64))))), .second, .unset] [(.ref b143), (.ref b143), (.ref b142), (.ref b142)]))
            refine OGo.by (fun _ k => XS.iconst X143.here hx rfl (hb hby at_157) k) ?_
            show OGo p e below _ (T143.setTop (mkF m 158 #[.val (.int i0), .val (.long i1), .second, .val (.int i2), .val (.int ((i0 &&& (2147483647 : Int32)) % (6 : Int32))), .val (.ref w_SUBSCRIBER_IDS), .val (.long (1 : Int64)), .second, .val (.long (1000 : Int64)), .second, .val (.long ((1 : Int64) + ((i1 &&& (9223372036854775807 : Int64)) - ((i1 &&& (9223372036854775807 : Int64)) / (((1000 : Int64) - (1 : Int64)) + (1 : Int64))) * (((1000 : Int64) - (1 : Int64)) + (1 : Int64))))), .second, .unset] [(.int (0 : Int32)), (.ref b143), (.ref b143), (.ref b142), (.ref b142)]))
            refine OGo.by (fun _ k => XS.iloadN X143.here hx rfl (hb hby at_158) rfl k) ?_
            show OGo p e below _ (T143.setTop (mkF m 159 #[.val (.int i0), .val (.long i1), .second, .val (.int i2), .val (.int ((i0 &&& (2147483647 : Int32)) % (6 : Int32))), .val (.ref w_SUBSCRIBER_IDS), .val (.long (1 : Int64)), .second, .val (.long (1000 : Int64)), .second, .val (.long ((1 : Int64) + ((i1 &&& (9223372036854775807 : Int64)) - ((i1 &&& (9223372036854775807 : Int64)) / (((1000 : Int64) - (1 : Int64)) + (1 : Int64))) * (((1000 : Int64) - (1 : Int64)) + (1 : Int64))))), .second, .unset] [(.int i2), (.int (0 : Int32)), (.ref b143), (.ref b143), (.ref b142), (.ref b142)]))
            refine OGo.by (fun _ k => XS.sipush X143.here hx rfl (hb hby at_159) k) ?_
            show OGo p e below _ (T143.setTop (mkF m 162 #[.val (.int i0), .val (.long i1), .second, .val (.int i2), .val (.int ((i0 &&& (2147483647 : Int32)) % (6 : Int32))), .val (.ref w_SUBSCRIBER_IDS), .val (.long (1 : Int64)), .second, .val (.long (1000 : Int64)), .second, .val (.long ((1 : Int64) + ((i1 &&& (9223372036854775807 : Int64)) - ((i1 &&& (9223372036854775807 : Int64)) / (((1000 : Int64) - (1 : Int64)) + (1 : Int64))) * (((1000 : Int64) - (1 : Int64)) + (1 : Int64))))), .second, .unset] [(.int (255 : Int32)), (.int i2), (.int (0 : Int32)), (.ref b143), (.ref b143), (.ref b142), (.ref b142)]))
            refine OGo.by (fun _ k => XS.iand X143.here hx rfl (hb hby at_162) rfl k) ?_
            show OGo p e below _ (T143.setTop (mkF m 163 #[.val (.int i0), .val (.long i1), .second, .val (.int i2), .val (.int ((i0 &&& (2147483647 : Int32)) % (6 : Int32))), .val (.ref w_SUBSCRIBER_IDS), .val (.long (1 : Int64)), .second, .val (.long (1000 : Int64)), .second, .val (.long ((1 : Int64) + ((i1 &&& (9223372036854775807 : Int64)) - ((i1 &&& (9223372036854775807 : Int64)) / (((1000 : Int64) - (1 : Int64)) + (1 : Int64))) * (((1000 : Int64) - (1 : Int64)) + (1 : Int64))))), .second, .unset] [(.int (i2 &&& (255 : Int32))), (.int (0 : Int32)), (.ref b143), (.ref b143), (.ref b142), (.ref b142)]))
            refine OGo.by (fun _ k => XS.i2c X143.here hx rfl (hb hby at_163) rfl k) ?_
            show OGo p e below _ (T143.setTop (mkF m 164 #[.val (.int i0), .val (.long i1), .second, .val (.int i2), .val (.int ((i0 &&& (2147483647 : Int32)) % (6 : Int32))), .val (.ref w_SUBSCRIBER_IDS), .val (.long (1 : Int64)), .second, .val (.long (1000 : Int64)), .second, .val (.long ((1 : Int64) + ((i1 &&& (9223372036854775807 : Int64)) - ((i1 &&& (9223372036854775807 : Int64)) / (((1000 : Int64) - (1 : Int64)) + (1 : Int64))) * (((1000 : Int64) - (1 : Int64)) + (1 : Int64))))), .second, .unset] [(.int ((i2 &&& (255 : Int32)).toUInt32.toUInt16.toUInt32.toInt32)), (.int (0 : Int32)), (.ref b143), (.ref b143), (.ref b142), (.ref b142)]))
            obtain ⟨cl150, Ar150, q150, S150, M150, Hs150, G150⟩ := id V143
            obtain ⟨T150, h150, X150, e150, W150, st150⟩ := stC X143 hx hZ e143 Ar150 (j := (0 : Int32)) (inb_of S150 ⟨(by decide), (by decide)⟩) (g := (mkF m 164 #[.val (.int i0), .val (.long i1), .second, .val (.int i2), .val (.int ((i0 &&& (2147483647 : Int32)) % (6 : Int32))), .val (.ref w_SUBSCRIBER_IDS), .val (.long (1 : Int64)), .second, .val (.long (1000 : Int64)), .second, .val (.long ((1 : Int64) + ((i1 &&& (9223372036854775807 : Int64)) - ((i1 &&& (9223372036854775807 : Int64)) / (((1000 : Int64) - (1 : Int64)) + (1 : Int64))) * (((1000 : Int64) - (1 : Int64)) + (1 : Int64))))), .second, .unset] [(.int ((i2 &&& (255 : Int32)).toUInt32.toUInt16.toUInt32.toInt32)), (.int (0 : Int32)), (.ref b143), (.ref b143), (.ref b142), (.ref b142)])) rfl rfl (hb hby at_164)
            refine OGo.by st150 ?_
            have N150 := Fr.snoc X150 N0 g_b143
            have K150 : Keep h0 h150 [] := (K143).wr W150 (Or.inr sz_b143)
            have V150 : Arv Z h150 b143 k143 .char (1 : Int32) [(.int (nar .char ((i2 &&& (255 : Int32)).toUInt32.toUInt16.toUInt32.toInt32)))] (.int (0 : Int32)) := Arv.set Ar150 q150 S150 M150 Hs150 G150 (fits_nar_char _) W150 0 rfl (Nat.le_of_ble_eq_true rfl)
            show OGo p e below _ (T150.setTop (mkF m 165 #[.val (.int i0), .val (.long i1), .second, .val (.int i2), .val (.int ((i0 &&& (2147483647 : Int32)) % (6 : Int32))), .val (.ref w_SUBSCRIBER_IDS), .val (.long (1 : Int64)), .second, .val (.long (1000 : Int64)), .second, .val (.long ((1 : Int64) + ((i1 &&& (9223372036854775807 : Int64)) - ((i1 &&& (9223372036854775807 : Int64)) / (((1000 : Int64) - (1 : Int64)) + (1 : Int64))) * (((1000 : Int64) - (1 : Int64)) + (1 : Int64))))), .second, .unset] [(.ref b143), (.ref b142), (.ref b142)]))
            have f152 : Exa Z h150 b142 "java/lang/String" := ((A142.ext E143).wr W150)
            have f153 : Fld Z h150 b142 "java/lang/String" "value" "[B" .null := ((F142_value.ext E143).other W150 (Or.inl ne_b142_b143))
            have f154 : Fld Z h150 b142 "java/lang/String" "coder" "B" (.int (0 : Int32)) := ((F142_coder.ext E143).other W150 (Or.inl ne_b142_b143))
            have f155 : Old Z n0 h150 := (((O0.ext E142).ext E143).wr W150 g_b143)
            have hp151 : ∀ c ∈ ([(nar .char ((i2 &&& (255 : Int32)).toUInt32.toUInt16.toUInt32.toInt32))] : List Int32), ¬ c < 0 ∧ ¬ (255 : Int32) < c := by
              intro c hc; simp only [List.mem_cons, List.not_mem_nil, or_false] at hc
              subst hc; exact and255_chars i2
            have hws151 : ∀ d ∈ StrChars.Road.words, d.before av0 Z = true := fun d hd => hw d ((by decide +kernel : ∀ d ∈ StrChars.Road.words, d ∈ tables_1) d hd)
            obtain ⟨_, _, ⟨T151, L151, k151, n151⟩, -, X151, ⟨Lc151, hQ151, l151, y151, z151⟩, st151⟩ := X150.specialBack hx (y := (⟨"java/lang/String", "<init>", "([C)V"⟩ : MethodName)) rfl hown (mvT hZ (hw _ (List.mem_of_getElem? (i := 10) rfl))) (mvT hZ (hw _ (List.mem_of_getElem? (i := 11) rfl))) (mvT hZ (hw _ (List.mem_of_getElem? (i := 12) rfl))) (by decide) (StrChars.Road.backV (W := 1) hZ hws151 (kI := 4) (hw _ (List.mem_of_getElem? (i := 7) rfl)) (cs := ([(nar .char ((i2 &&& (255 : Int32)).toUInt32.toUInt16.toUInt32.toInt32))] : List Int32)) (bs := ([(nar .char ((i2 &&& (255 : Int32)).toUInt32.toUInt16.toUInt32.toInt32))] : List Int32).map (fun c => c.toInt8.toInt32)) (n := 1) g_b142 (Nat.le_trans Z0 K150.1) f152 f153 f154 V150 (S1.ext f155.2) hcz rfl rfl (by decide) (by decide) hp151 rfl (by decide) (by decide)) (g := (mkF m 165 #[.val (.int i0), .val (.long i1), .second, .val (.int i2), .val (.int ((i0 &&& (2147483647 : Int32)) % (6 : Int32))), .val (.ref w_SUBSCRIBER_IDS), .val (.long (1 : Int64)), .second, .val (.long (1000 : Int64)), .second, .val (.long ((1 : Int64) + ((i1 &&& (9223372036854775807 : Int64)) - ((i1 &&& (9223372036854775807 : Int64)) / (((1000 : Int64) - (1 : Int64)) + (1 : Int64))) * (((1000 : Int64) - (1 : Int64)) + (1 : Int64))))), .second, .unset] [(.ref b143), (.ref b142), (.ref b142)])) rfl (by rw [hml]; rfl) (Steps.refl _) (a := b142) (argsL := [(.ref b143)]) (rest := [(.ref b142)]) (lenOf own_pd0 rfl) rfl (by show 2 * 0 + _ ≤ _; exact Nat.le_of_eq rfl) (hb hby at_165) (fun _ _ => ⟨rfl, e150, (by decide : 2 + 1 ≤ _), (by decide : 5 + 1 ≤ _)⟩)
            dsimp only [Pt.U, Pt.locs, Pt.cells, Pt.slots] at X151 l151 y151 z151 st151 hQ151
            subst l151 y151 z151
            obtain ⟨rfl, N151q, Kc151, GE151, GC151, t151, kb151, gt151, ge151, ne_t151_b142, GV151, GA151⟩ := hQ151
            have N151 := Fr.app N150 N151q
            have f156 : Exa Z h150 w_NAME "com/example/kept_inbox/keptinbox/Limit" := ((f144.ext E143).wr W150)
            have ne_w_NAME_t151 : w_NAME ≠ t151 := Nat.ne_of_lt (Nat.lt_of_lt_of_le f156.lt ge151)
            have f157 : Exa Z h150 w_TITLE "com/example/kept_inbox/keptinbox/Limit" := ((f145.ext E143).wr W150)
            have ne_w_TITLE_t151 : w_TITLE ≠ t151 := Nat.ne_of_lt (Nat.lt_of_lt_of_le f157.lt ge151)
            have f158 : Exa Z h150 w_BODY "com/example/kept_inbox/keptinbox/Limit" := ((f146.ext E143).wr W150)
            have ne_w_BODY_t151 : w_BODY ≠ t151 := Nat.ne_of_lt (Nat.lt_of_lt_of_le f158.lt ge151)
            have f159 : Exa Z h150 w_RECIPIENTS "com/example/kept_inbox/keptinbox/Limit" := ((f147.ext E143).wr W150)
            have ne_w_RECIPIENTS_t151 : w_RECIPIENTS ≠ t151 := Nat.ne_of_lt (Nat.lt_of_lt_of_le f159.lt ge151)
            have f160 : Exa Z h150 w_MEMBERS "com/example/kept_inbox/keptinbox/Limit" := ((f148.ext E143).wr W150)
            have ne_w_MEMBERS_t151 : w_MEMBERS ≠ t151 := Nat.ne_of_lt (Nat.lt_of_lt_of_le f160.lt ge151)
            have f161 : Exa Z h150 w_SUBSCRIBER_IDS "com/example/kept_inbox/keptinbox/Limit" := ((f149.ext E143).wr W150)
            have ne_w_SUBSCRIBER_IDS_t151 : w_SUBSCRIBER_IDS ≠ t151 := Nat.ne_of_lt (Nat.lt_of_lt_of_le f161.lt ge151)
            have ne_b142_t151 : b142 ≠ t151 := Nat.ne_of_lt (Nat.lt_of_lt_of_le f152.lt ge151)
            have ne_b143_t151 : b143 ≠ t151 := Nat.ne_of_lt (Nat.lt_of_lt_of_le V150.lt ge151)
            have g_t151 : n0 ≤ t151 := Nat.le_trans (Nat.le_trans Z0 K150.1) ge151
            have sz_t151 : h0.size ≤ t151 := Nat.le_trans K150.1 ge151
            have K151 : Keep h0 T151.heap [] := (K150).trans Kc151 (fun x hx => by simp only [List.mem_cons, List.not_mem_nil, or_false] at hx; subst hx; exact Or.inr sz_b142)
            refine OGo.of st151 ?_
            show OGo p e below _ (T151.setTop (mkF m 168 #[.val (.int i0), .val (.long i1), .second, .val (.int i2), .val (.int ((i0 &&& (2147483647 : Int32)) % (6 : Int32))), .val (.ref w_SUBSCRIBER_IDS), .val (.long (1 : Int64)), .second, .val (.long (1000 : Int64)), .second, .val (.long ((1 : Int64) + ((i1 &&& (9223372036854775807 : Int64)) - ((i1 &&& (9223372036854775807 : Int64)) / (((1000 : Int64) - (1 : Int64)) + (1 : Int64))) * (((1000 : Int64) - (1 : Int64)) + (1 : Int64))))), .second, .unset] [(.ref b142)]))
            refine OGo.by (fun _ k => XS.astore X151.here hx rfl (hb hby at_168) rfl rfl (l' := #[.val (.int i0), .val (.long i1), .second, .val (.int i2), .val (.int ((i0 &&& (2147483647 : Int32)) % (6 : Int32))), .val (.ref w_SUBSCRIBER_IDS), .val (.long (1 : Int64)), .second, .val (.long (1000 : Int64)), .second, .val (.long ((1 : Int64) + ((i1 &&& (9223372036854775807 : Int64)) - ((i1 &&& (9223372036854775807 : Int64)) / (((1000 : Int64) - (1 : Int64)) + (1 : Int64))) * (((1000 : Int64) - (1 : Int64)) + (1 : Int64))))), .second, .val (.ref b142)]) rfl k) ?_
            show OGo p e below _ (T151.setTop (mkF m 170 #[.val (.int i0), .val (.long i1), .second, .val (.int i2), .val (.int ((i0 &&& (2147483647 : Int32)) % (6 : Int32))), .val (.ref w_SUBSCRIBER_IDS), .val (.long (1 : Int64)), .second, .val (.long (1000 : Int64)), .second, .val (.long ((1 : Int64) + ((i1 &&& (9223372036854775807 : Int64)) - ((i1 &&& (9223372036854775807 : Int64)) / (((1000 : Int64) - (1 : Int64)) + (1 : Int64))) * (((1000 : Int64) - (1 : Int64)) + (1 : Int64))))), .second, .val (.ref b142)] []))
            refine OGo.by (fun _ k => XS.aload X151.here hx rfl (hb hby at_170) rfl rfl k) ?_
            show OGo p e below _ (T151.setTop (mkF m 172 #[.val (.int i0), .val (.long i1), .second, .val (.int i2), .val (.int ((i0 &&& (2147483647 : Int32)) % (6 : Int32))), .val (.ref w_SUBSCRIBER_IDS), .val (.long (1 : Int64)), .second, .val (.long (1000 : Int64)), .second, .val (.long ((1 : Int64) + ((i1 &&& (9223372036854775807 : Int64)) - ((i1 &&& (9223372036854775807 : Int64)) / (((1000 : Int64) - (1 : Int64)) + (1 : Int64))) * (((1000 : Int64) - (1 : Int64)) + (1 : Int64))))), .second, .val (.ref b142)] [(.ref w_SUBSCRIBER_IDS)]))
            refine OGo.by (fun _ k => XS.aload X151.here hx rfl (hb hby at_172) rfl rfl k) ?_
            show OGo p e below _ (T151.setTop (mkF m 174 #[.val (.int i0), .val (.long i1), .second, .val (.int i2), .val (.int ((i0 &&& (2147483647 : Int32)) % (6 : Int32))), .val (.ref w_SUBSCRIBER_IDS), .val (.long (1 : Int64)), .second, .val (.long (1000 : Int64)), .second, .val (.long ((1 : Int64) + ((i1 &&& (9223372036854775807 : Int64)) - ((i1 &&& (9223372036854775807 : Int64)) / (((1000 : Int64) - (1 : Int64)) + (1 : Int64))) * (((1000 : Int64) - (1 : Int64)) + (1 : Int64))))), .second, .val (.ref b142)] [(.ref b142), (.ref w_SUBSCRIBER_IDS)]))
            refine OGo.by (fun _ k => XS.lload X151.here hx rfl (hb hby at_174) rfl k) ?_
            show OGo p e below _ (T151.setTop (mkF m 176 #[.val (.int i0), .val (.long i1), .second, .val (.int i2), .val (.int ((i0 &&& (2147483647 : Int32)) % (6 : Int32))), .val (.ref w_SUBSCRIBER_IDS), .val (.long (1 : Int64)), .second, .val (.long (1000 : Int64)), .second, .val (.long ((1 : Int64) + ((i1 &&& (9223372036854775807 : Int64)) - ((i1 &&& (9223372036854775807 : Int64)) / (((1000 : Int64) - (1 : Int64)) + (1 : Int64))) * (((1000 : Int64) - (1 : Int64)) + (1 : Int64))))), .second, .val (.ref b142)] [(.long ((1 : Int64) + ((i1 &&& (9223372036854775807 : Int64)) - ((i1 &&& (9223372036854775807 : Int64)) / (((1000 : Int64) - (1 : Int64)) + (1 : Int64))) * (((1000 : Int64) - (1 : Int64)) + (1 : Int64))))), (.ref b142), (.ref w_SUBSCRIBER_IDS)]))
            have f163 : Fld Z T151.heap w_SUBSCRIBER_IDS "com/example/kept_inbox/keptinbox/Limit" "min" "I" (.int (1 : Int32)) := ((((F_SUBSCRIBER_IDS_min.ext E142).ext E143).other W150 (Or.inl ne_w_SUBSCRIBER_IDS_b143)).keep Kc151 (ninS ne_w_SUBSCRIBER_IDS_b142 nin0))
            have f164 : Fld Z T151.heap w_SUBSCRIBER_IDS "com/example/kept_inbox/keptinbox/Limit" "max" "I" (.int (1000 : Int32)) := ((((F_SUBSCRIBER_IDS_max.ext E142).ext E143).other W150 (Or.inl ne_w_SUBSCRIBER_IDS_b143)).keep Kc151 (ninS ne_w_SUBSCRIBER_IDS_b142 nin0))
            have f165 : Exa Z T151.heap w_SUBSCRIBER_IDS "com/example/kept_inbox/keptinbox/Limit" := (f161.keep Kc151)
            obtain ⟨cq162, kq162, q162a, q162b, q162c⟩ := isOf hZ rfl f165
            obtain ⟨_, _, ⟨T162, L162, k162, n162⟩, -, X162, ⟨Lc162, hQ162, l162, y162, z162⟩, st162⟩ := X151.virtualBack hx (y := (⟨"com/example/kept_inbox/keptinbox/Limit", "check", "(Ljava/lang/String;J)V"⟩ : MethodName)) (z := (⟨"com/example/kept_inbox/keptinbox/Limit", "check", "(Ljava/lang/String;J)V"⟩ : MethodName)) hown (mvT hZ (hw _ (List.mem_of_getElem? (i := 36) rfl))) (mvT hZ (hw _ (List.mem_of_getElem? (i := 37) rfl))) (notFace_of_selects (args := #[]) (mvT hZ (hw _ (List.mem_of_getElem? (i := 39) rfl)))) (mvT hZ (hw _ (List.mem_of_getElem? (i := 39) rfl))) (mvT hZ (hw _ (List.mem_of_getElem? (i := 38) rfl))) (by decide) (backOf (W := 0) (rm7 l Z av0 hw [] w_SUBSCRIBER_IDS b142 ((1 : Int64) + ((i1 &&& (9223372036854775807 : Int64)) - ((i1 &&& (9223372036854775807 : Int64)) / (((1000 : Int64) - (1 : Int64)) + (1 : Int64))) * (((1000 : Int64) - (1 : Int64)) + (1 : Int64)))) (1 : Int32) (1000 : Int32) T151.heap n0 (Nat.le_trans Z0 K151.1) f163 f164 (own_nlt (own_rng (hi := (1000 : Int64)) 1 1000 (by decide) (by decide) (by decide) (by decide) (by decide) (own_nn i1)).1 (by decide)) (own_ngt (own_rng (hi := (1000 : Int64)) 1 1000 (by decide) (by decide) (by decide) (by decide) (by decide) (own_nn i1)).2 (by decide))) hZ (hw _ (List.mem_of_getElem? (i := 40) rfl)) (hw _ (List.mem_of_getElem? (i := 2) rfl)) (by decide) (by decide)) q162a q162c (g := (mkF m 176 #[.val (.int i0), .val (.long i1), .second, .val (.int i2), .val (.int ((i0 &&& (2147483647 : Int32)) % (6 : Int32))), .val (.ref w_SUBSCRIBER_IDS), .val (.long (1 : Int64)), .second, .val (.long (1000 : Int64)), .second, .val (.long ((1 : Int64) + ((i1 &&& (9223372036854775807 : Int64)) - ((i1 &&& (9223372036854775807 : Int64)) / (((1000 : Int64) - (1 : Int64)) + (1 : Int64))) * (((1000 : Int64) - (1 : Int64)) + (1 : Int64))))), .second, .val (.ref b142)] [(.long ((1 : Int64) + ((i1 &&& (9223372036854775807 : Int64)) - ((i1 &&& (9223372036854775807 : Int64)) / (((1000 : Int64) - (1 : Int64)) + (1 : Int64))) * (((1000 : Int64) - (1 : Int64)) + (1 : Int64))))), (.ref b142), (.ref w_SUBSCRIBER_IDS)])) rfl (by rw [hml]; rfl) (Steps.refl _) (argsL := [(.ref b142), (.long ((1 : Int64) + ((i1 &&& (9223372036854775807 : Int64)) - ((i1 &&& (9223372036854775807 : Int64)) / (((1000 : Int64) - (1 : Int64)) + (1 : Int64))) * (((1000 : Int64) - (1 : Int64)) + (1 : Int64)))))]) (rest := []) (lenOf own_pd1 rfl) rfl (by show 2 * 0 + _ ≤ _; exact Nat.le_of_eq rfl) (hb hby at_176) (fun _ _ => ⟨rfl, rfl, (by decide : 3 + 0 ≤ _), (by decide : 6 + 0 ≤ _)⟩)
            dsimp only [Pt.U, Pt.locs, Pt.cells, Pt.slots] at X162 l162 y162 z162 st162 hQ162
            subst l162 y162 z162
            obtain ⟨rfl, N162q, e162⟩ := hQ162
            have N162 := Fr.app N151 N162q
            refine OGo.of st162 ?_
            show OGo p e below _ (T162.setTop (mkF m 179 #[.val (.int i0), .val (.long i1), .second, .val (.int i2), .val (.int ((i0 &&& (2147483647 : Int32)) % (6 : Int32))), .val (.ref w_SUBSCRIBER_IDS), .val (.long (1 : Int64)), .second, .val (.long (1000 : Int64)), .second, .val (.long ((1 : Int64) + ((i1 &&& (9223372036854775807 : Int64)) - ((i1 &&& (9223372036854775807 : Int64)) / (((1000 : Int64) - (1 : Int64)) + (1 : Int64))) * (((1000 : Int64) - (1 : Int64)) + (1 : Int64))))), .second, .val (.ref b142)] []))
            refine OGo.by (fun _ k => XS.aload X162.here hx rfl (hb hby at_179) rfl rfl k) ?_
            show OGo p e below _ (T162.setTop (mkF m 181 #[.val (.int i0), .val (.long i1), .second, .val (.int i2), .val (.int ((i0 &&& (2147483647 : Int32)) % (6 : Int32))), .val (.ref w_SUBSCRIBER_IDS), .val (.long (1 : Int64)), .second, .val (.long (1000 : Int64)), .second, .val (.long ((1 : Int64) + ((i1 &&& (9223372036854775807 : Int64)) - ((i1 &&& (9223372036854775807 : Int64)) / (((1000 : Int64) - (1 : Int64)) + (1 : Int64))) * (((1000 : Int64) - (1 : Int64)) + (1 : Int64))))), .second, .val (.ref b142)] [(.ref w_SUBSCRIBER_IDS)]))
            obtain ⟨cq166, kq166, q166a, q166b, q166c⟩ := isOf hZ e162 f165
            obtain ⟨_, _, ⟨T166, L166, k166, n166⟩, -, X166, ⟨Lc166, hQ166, l166, y166, z166⟩, st166⟩ := X162.virtualBack hx (y := (⟨"com/example/kept_inbox/keptinbox/Limit", "min", "()I"⟩ : MethodName)) (z := (⟨"com/example/kept_inbox/keptinbox/Limit", "min", "()I"⟩ : MethodName)) hown (mvT hZ (hw _ (List.mem_of_getElem? (i := 45) rfl))) (mvT hZ (hw _ (List.mem_of_getElem? (i := 46) rfl))) (notFace_of_selects (args := #[]) (mvT hZ (hw _ (List.mem_of_getElem? (i := 48) rfl)))) (mvT hZ (hw _ (List.mem_of_getElem? (i := 48) rfl))) (mvT hZ (hw _ (List.mem_of_getElem? (i := 47) rfl))) (by decide) (backOf (W := 0) (rm8 l Z av0 hw [] w_SUBSCRIBER_IDS (1 : Int32) T151.heap n0 (Nat.le_trans Z0 K151.1) f163) hZ (hw _ (List.mem_of_getElem? (i := 49) rfl)) (hw _ (List.mem_of_getElem? (i := 2) rfl)) (by decide) (by decide)) q166a q166c (g := (mkF m 181 #[.val (.int i0), .val (.long i1), .second, .val (.int i2), .val (.int ((i0 &&& (2147483647 : Int32)) % (6 : Int32))), .val (.ref w_SUBSCRIBER_IDS), .val (.long (1 : Int64)), .second, .val (.long (1000 : Int64)), .second, .val (.long ((1 : Int64) + ((i1 &&& (9223372036854775807 : Int64)) - ((i1 &&& (9223372036854775807 : Int64)) / (((1000 : Int64) - (1 : Int64)) + (1 : Int64))) * (((1000 : Int64) - (1 : Int64)) + (1 : Int64))))), .second, .val (.ref b142)] [(.ref w_SUBSCRIBER_IDS)])) rfl (by rw [hml]; rfl) (Steps.refl _) (argsL := []) (rest := []) (lenOf own_pd2 rfl) rfl (by show 2 * 0 + _ ≤ _; exact Nat.le_of_eq rfl) (hb hby at_181) (fun _ _ => ⟨rfl, e162, (by decide : 3 + 0 ≤ _), (by decide : 6 + 0 ≤ _)⟩)
            dsimp only [Pt.U, Pt.locs, Pt.cells, Pt.slots] at X166 l166 y166 z166 st166 hQ166
            subst l166 y166 z166
            obtain ⟨rfl, N166q, e166⟩ := hQ166
            have N166 := Fr.app N162 N166q
            refine OGo.of st166 ?_
            show OGo p e below _ (T166.setTop (mkF m 184 #[.val (.int i0), .val (.long i1), .second, .val (.int i2), .val (.int ((i0 &&& (2147483647 : Int32)) % (6 : Int32))), .val (.ref w_SUBSCRIBER_IDS), .val (.long (1 : Int64)), .second, .val (.long (1000 : Int64)), .second, .val (.long ((1 : Int64) + ((i1 &&& (9223372036854775807 : Int64)) - ((i1 &&& (9223372036854775807 : Int64)) / (((1000 : Int64) - (1 : Int64)) + (1 : Int64))) * (((1000 : Int64) - (1 : Int64)) + (1 : Int64))))), .second, .val (.ref b142)] [(.int (1 : Int32))]))
            refine OGo.by (fun _ k => XS.i2l X166.here hx rfl (hb hby at_184) rfl k) ?_
            show OGo p e below _ (T166.setTop (mkF m 185 #[.val (.int i0), .val (.long i1), .second, .val (.int i2), .val (.int ((i0 &&& (2147483647 : Int32)) % (6 : Int32))), .val (.ref w_SUBSCRIBER_IDS), .val (.long (1 : Int64)), .second, .val (.long (1000 : Int64)), .second, .val (.long ((1 : Int64) + ((i1 &&& (9223372036854775807 : Int64)) - ((i1 &&& (9223372036854775807 : Int64)) / (((1000 : Int64) - (1 : Int64)) + (1 : Int64))) * (((1000 : Int64) - (1 : Int64)) + (1 : Int64))))), .second, .val (.ref b142)] [(.long ((1 : Int32).toInt64))]))
            refine OGo.by (fun _ k => XS.lload X166.here hx rfl (hb hby at_185) rfl k) ?_
            show OGo p e below _ (T166.setTop (mkF m 187 #[.val (.int i0), .val (.long i1), .second, .val (.int i2), .val (.int ((i0 &&& (2147483647 : Int32)) % (6 : Int32))), .val (.ref w_SUBSCRIBER_IDS), .val (.long (1 : Int64)), .second, .val (.long (1000 : Int64)), .second, .val (.long ((1 : Int64) + ((i1 &&& (9223372036854775807 : Int64)) - ((i1 &&& (9223372036854775807 : Int64)) / (((1000 : Int64) - (1 : Int64)) + (1 : Int64))) * (((1000 : Int64) - (1 : Int64)) + (1 : Int64))))), .second, .val (.ref b142)] [(.long (1 : Int64)), (.long ((1 : Int32).toInt64))]))
            refine OGo.by (fun _ k => XS.lcmp X166.here hx rfl (hb hby at_187) rfl k) ?_
            show OGo p e below _ (T166.setTop (mkF m 188 #[.val (.int i0), .val (.long i1), .second, .val (.int i2), .val (.int ((i0 &&& (2147483647 : Int32)) % (6 : Int32))), .val (.ref w_SUBSCRIBER_IDS), .val (.long (1 : Int64)), .second, .val (.long (1000 : Int64)), .second, .val (.long ((1 : Int64) + ((i1 &&& (9223372036854775807 : Int64)) - ((i1 &&& (9223372036854775807 : Int64)) / (((1000 : Int64) - (1 : Int64)) + (1 : Int64))) * (((1000 : Int64) - (1 : Int64)) + (1 : Int64))))), .second, .val (.ref b142)] [(.int (lcmpW ((1 : Int32).toInt64) (1 : Int64)))]))
            refine OGo.by (fun _ k => XS.ifNo X166.here hx rfl (hb hby at_188) rfl ((if0 _ _).trans (teq ((lw_eq _ _).mpr (by decide : ((1 : Int32).toInt64) = (1 : Int64)))).2) k) ?_
            show OGo p e below _ (T166.setTop (mkF m 191 #[.val (.int i0), .val (.long i1), .second, .val (.int i2), .val (.int ((i0 &&& (2147483647 : Int32)) % (6 : Int32))), .val (.ref w_SUBSCRIBER_IDS), .val (.long (1 : Int64)), .second, .val (.long (1000 : Int64)), .second, .val (.long ((1 : Int64) + ((i1 &&& (9223372036854775807 : Int64)) - ((i1 &&& (9223372036854775807 : Int64)) / (((1000 : Int64) - (1 : Int64)) + (1 : Int64))) * (((1000 : Int64) - (1 : Int64)) + (1 : Int64))))), .second, .val (.ref b142)] []))
            refine OGo.by (fun _ k => XS.aload X166.here hx rfl (hb hby at_191) rfl rfl k) ?_
            show OGo p e below _ (T166.setTop (mkF m 193 #[.val (.int i0), .val (.long i1), .second, .val (.int i2), .val (.int ((i0 &&& (2147483647 : Int32)) % (6 : Int32))), .val (.ref w_SUBSCRIBER_IDS), .val (.long (1 : Int64)), .second, .val (.long (1000 : Int64)), .second, .val (.long ((1 : Int64) + ((i1 &&& (9223372036854775807 : Int64)) - ((i1 &&& (9223372036854775807 : Int64)) / (((1000 : Int64) - (1 : Int64)) + (1 : Int64))) * (((1000 : Int64) - (1 : Int64)) + (1 : Int64))))), .second, .val (.ref b142)] [(.ref w_SUBSCRIBER_IDS)]))
            obtain ⟨cq167, kq167, q167a, q167b, q167c⟩ := isOf hZ e166 f165
            obtain ⟨_, _, ⟨T167, L167, k167, n167⟩, -, X167, ⟨Lc167, hQ167, l167, y167, z167⟩, st167⟩ := X166.virtualBack hx (y := (⟨"com/example/kept_inbox/keptinbox/Limit", "max", "()I"⟩ : MethodName)) (z := (⟨"com/example/kept_inbox/keptinbox/Limit", "max", "()I"⟩ : MethodName)) hown (mvT hZ (hw _ (List.mem_of_getElem? (i := 50) rfl))) (mvT hZ (hw _ (List.mem_of_getElem? (i := 51) rfl))) (notFace_of_selects (args := #[]) (mvT hZ (hw _ (List.mem_of_getElem? (i := 53) rfl)))) (mvT hZ (hw _ (List.mem_of_getElem? (i := 53) rfl))) (mvT hZ (hw _ (List.mem_of_getElem? (i := 52) rfl))) (by decide) (backOf (W := 0) (rm9 l Z av0 hw [] w_SUBSCRIBER_IDS (1000 : Int32) T151.heap n0 (Nat.le_trans Z0 K151.1) f164) hZ (hw _ (List.mem_of_getElem? (i := 54) rfl)) (hw _ (List.mem_of_getElem? (i := 2) rfl)) (by decide) (by decide)) q167a q167c (g := (mkF m 193 #[.val (.int i0), .val (.long i1), .second, .val (.int i2), .val (.int ((i0 &&& (2147483647 : Int32)) % (6 : Int32))), .val (.ref w_SUBSCRIBER_IDS), .val (.long (1 : Int64)), .second, .val (.long (1000 : Int64)), .second, .val (.long ((1 : Int64) + ((i1 &&& (9223372036854775807 : Int64)) - ((i1 &&& (9223372036854775807 : Int64)) / (((1000 : Int64) - (1 : Int64)) + (1 : Int64))) * (((1000 : Int64) - (1 : Int64)) + (1 : Int64))))), .second, .val (.ref b142)] [(.ref w_SUBSCRIBER_IDS)])) rfl (by rw [hml]; rfl) (Steps.refl _) (argsL := []) (rest := []) (lenOf own_pd2 rfl) rfl (by show 2 * 0 + _ ≤ _; exact Nat.le_of_eq rfl) (hb hby at_193) (fun _ _ => ⟨rfl, e166, (by decide : 3 + 0 ≤ _), (by decide : 6 + 0 ≤ _)⟩)
            dsimp only [Pt.U, Pt.locs, Pt.cells, Pt.slots] at X167 l167 y167 z167 st167 hQ167
            subst l167 y167 z167
            obtain ⟨rfl, N167q, e167⟩ := hQ167
            have N167 := Fr.app N166 N167q
            refine OGo.of st167 ?_
            show OGo p e below _ (T167.setTop (mkF m 196 #[.val (.int i0), .val (.long i1), .second, .val (.int i2), .val (.int ((i0 &&& (2147483647 : Int32)) % (6 : Int32))), .val (.ref w_SUBSCRIBER_IDS), .val (.long (1 : Int64)), .second, .val (.long (1000 : Int64)), .second, .val (.long ((1 : Int64) + ((i1 &&& (9223372036854775807 : Int64)) - ((i1 &&& (9223372036854775807 : Int64)) / (((1000 : Int64) - (1 : Int64)) + (1 : Int64))) * (((1000 : Int64) - (1 : Int64)) + (1 : Int64))))), .second, .val (.ref b142)] [(.int (1000 : Int32))]))
            refine OGo.by (fun _ k => XS.i2l X167.here hx rfl (hb hby at_196) rfl k) ?_
            show OGo p e below _ (T167.setTop (mkF m 197 #[.val (.int i0), .val (.long i1), .second, .val (.int i2), .val (.int ((i0 &&& (2147483647 : Int32)) % (6 : Int32))), .val (.ref w_SUBSCRIBER_IDS), .val (.long (1 : Int64)), .second, .val (.long (1000 : Int64)), .second, .val (.long ((1 : Int64) + ((i1 &&& (9223372036854775807 : Int64)) - ((i1 &&& (9223372036854775807 : Int64)) / (((1000 : Int64) - (1 : Int64)) + (1 : Int64))) * (((1000 : Int64) - (1 : Int64)) + (1 : Int64))))), .second, .val (.ref b142)] [(.long ((1000 : Int32).toInt64))]))
            refine OGo.by (fun _ k => XS.lload X167.here hx rfl (hb hby at_197) rfl k) ?_
            show OGo p e below _ (T167.setTop (mkF m 199 #[.val (.int i0), .val (.long i1), .second, .val (.int i2), .val (.int ((i0 &&& (2147483647 : Int32)) % (6 : Int32))), .val (.ref w_SUBSCRIBER_IDS), .val (.long (1 : Int64)), .second, .val (.long (1000 : Int64)), .second, .val (.long ((1 : Int64) + ((i1 &&& (9223372036854775807 : Int64)) - ((i1 &&& (9223372036854775807 : Int64)) / (((1000 : Int64) - (1 : Int64)) + (1 : Int64))) * (((1000 : Int64) - (1 : Int64)) + (1 : Int64))))), .second, .val (.ref b142)] [(.long (1000 : Int64)), (.long ((1000 : Int32).toInt64))]))
            refine OGo.by (fun _ k => XS.lcmp X167.here hx rfl (hb hby at_199) rfl k) ?_
            show OGo p e below _ (T167.setTop (mkF m 200 #[.val (.int i0), .val (.long i1), .second, .val (.int i2), .val (.int ((i0 &&& (2147483647 : Int32)) % (6 : Int32))), .val (.ref w_SUBSCRIBER_IDS), .val (.long (1 : Int64)), .second, .val (.long (1000 : Int64)), .second, .val (.long ((1 : Int64) + ((i1 &&& (9223372036854775807 : Int64)) - ((i1 &&& (9223372036854775807 : Int64)) / (((1000 : Int64) - (1 : Int64)) + (1 : Int64))) * (((1000 : Int64) - (1 : Int64)) + (1 : Int64))))), .second, .val (.ref b142)] [(.int (lcmpW ((1000 : Int32).toInt64) (1000 : Int64)))]))
            refine OGo.by (fun _ k => XS.ifNo X167.here hx rfl (hb hby at_200) rfl ((if0 _ _).trans (teq ((lw_eq _ _).mpr (by decide : ((1000 : Int32).toInt64) = (1000 : Int64)))).2) k) ?_
            show OGo p e below _ (T167.setTop (mkF m 203 #[.val (.int i0), .val (.long i1), .second, .val (.int i2), .val (.int ((i0 &&& (2147483647 : Int32)) % (6 : Int32))), .val (.ref w_SUBSCRIBER_IDS), .val (.long (1 : Int64)), .second, .val (.long (1000 : Int64)), .second, .val (.long ((1 : Int64) + ((i1 &&& (9223372036854775807 : Int64)) - ((i1 &&& (9223372036854775807 : Int64)) / (((1000 : Int64) - (1 : Int64)) + (1 : Int64))) * (((1000 : Int64) - (1 : Int64)) + (1 : Int64))))), .second, .val (.ref b142)] []))
            refine OGo.by (fun _ k => XS.lload X167.here hx rfl (hb hby at_203) rfl k) ?_
            show OGo p e below _ (T167.setTop (mkF m 205 #[.val (.int i0), .val (.long i1), .second, .val (.int i2), .val (.int ((i0 &&& (2147483647 : Int32)) % (6 : Int32))), .val (.ref w_SUBSCRIBER_IDS), .val (.long (1 : Int64)), .second, .val (.long (1000 : Int64)), .second, .val (.long ((1 : Int64) + ((i1 &&& (9223372036854775807 : Int64)) - ((i1 &&& (9223372036854775807 : Int64)) / (((1000 : Int64) - (1 : Int64)) + (1 : Int64))) * (((1000 : Int64) - (1 : Int64)) + (1 : Int64))))), .second, .val (.ref b142)] [(.long ((1 : Int64) + ((i1 &&& (9223372036854775807 : Int64)) - ((i1 &&& (9223372036854775807 : Int64)) / (((1000 : Int64) - (1 : Int64)) + (1 : Int64))) * (((1000 : Int64) - (1 : Int64)) + (1 : Int64)))))]))
            refine OGo.by (fun _ k => XS.lload X167.here hx rfl (hb hby at_205) rfl k) ?_
            show OGo p e below _ (T167.setTop (mkF m 207 #[.val (.int i0), .val (.long i1), .second, .val (.int i2), .val (.int ((i0 &&& (2147483647 : Int32)) % (6 : Int32))), .val (.ref w_SUBSCRIBER_IDS), .val (.long (1 : Int64)), .second, .val (.long (1000 : Int64)), .second, .val (.long ((1 : Int64) + ((i1 &&& (9223372036854775807 : Int64)) - ((i1 &&& (9223372036854775807 : Int64)) / (((1000 : Int64) - (1 : Int64)) + (1 : Int64))) * (((1000 : Int64) - (1 : Int64)) + (1 : Int64))))), .second, .val (.ref b142)] [(.long (1 : Int64)), (.long ((1 : Int64) + ((i1 &&& (9223372036854775807 : Int64)) - ((i1 &&& (9223372036854775807 : Int64)) / (((1000 : Int64) - (1 : Int64)) + (1 : Int64))) * (((1000 : Int64) - (1 : Int64)) + (1 : Int64)))))]))
            refine OGo.by (fun _ k => XS.lcmp X167.here hx rfl (hb hby at_207) rfl k) ?_
            show OGo p e below _ (T167.setTop (mkF m 208 #[.val (.int i0), .val (.long i1), .second, .val (.int i2), .val (.int ((i0 &&& (2147483647 : Int32)) % (6 : Int32))), .val (.ref w_SUBSCRIBER_IDS), .val (.long (1 : Int64)), .second, .val (.long (1000 : Int64)), .second, .val (.long ((1 : Int64) + ((i1 &&& (9223372036854775807 : Int64)) - ((i1 &&& (9223372036854775807 : Int64)) / (((1000 : Int64) - (1 : Int64)) + (1 : Int64))) * (((1000 : Int64) - (1 : Int64)) + (1 : Int64))))), .second, .val (.ref b142)] [(.int (lcmpW ((1 : Int64) + ((i1 &&& (9223372036854775807 : Int64)) - ((i1 &&& (9223372036854775807 : Int64)) / (((1000 : Int64) - (1 : Int64)) + (1 : Int64))) * (((1000 : Int64) - (1 : Int64)) + (1 : Int64)))) (1 : Int64)))]))
            refine OGo.by (fun _ k => XS.ifNo X167.here hx rfl (hb hby at_208) rfl ((if0 _ _).trans (flt (mt (lw_lt _ _).mp (own_nlt (own_rng (hi := (1000 : Int64)) 1 1000 (by decide) (by decide) (by decide) (by decide) (by decide) (own_nn i1)).1 (by decide)))).1) k) ?_
            show OGo p e below _ (T167.setTop (mkF m 211 #[.val (.int i0), .val (.long i1), .second, .val (.int i2), .val (.int ((i0 &&& (2147483647 : Int32)) % (6 : Int32))), .val (.ref w_SUBSCRIBER_IDS), .val (.long (1 : Int64)), .second, .val (.long (1000 : Int64)), .second, .val (.long ((1 : Int64) + ((i1 &&& (9223372036854775807 : Int64)) - ((i1 &&& (9223372036854775807 : Int64)) / (((1000 : Int64) - (1 : Int64)) + (1 : Int64))) * (((1000 : Int64) - (1 : Int64)) + (1 : Int64))))), .second, .val (.ref b142)] []))
            refine OGo.by (fun _ k => XS.lload X167.here hx rfl (hb hby at_211) rfl k) ?_
            show OGo p e below _ (T167.setTop (mkF m 213 #[.val (.int i0), .val (.long i1), .second, .val (.int i2), .val (.int ((i0 &&& (2147483647 : Int32)) % (6 : Int32))), .val (.ref w_SUBSCRIBER_IDS), .val (.long (1 : Int64)), .second, .val (.long (1000 : Int64)), .second, .val (.long ((1 : Int64) + ((i1 &&& (9223372036854775807 : Int64)) - ((i1 &&& (9223372036854775807 : Int64)) / (((1000 : Int64) - (1 : Int64)) + (1 : Int64))) * (((1000 : Int64) - (1 : Int64)) + (1 : Int64))))), .second, .val (.ref b142)] [(.long ((1 : Int64) + ((i1 &&& (9223372036854775807 : Int64)) - ((i1 &&& (9223372036854775807 : Int64)) / (((1000 : Int64) - (1 : Int64)) + (1 : Int64))) * (((1000 : Int64) - (1 : Int64)) + (1 : Int64)))))]))
            refine OGo.by (fun _ k => XS.lload X167.here hx rfl (hb hby at_213) rfl k) ?_
            show OGo p e below _ (T167.setTop (mkF m 215 #[.val (.int i0), .val (.long i1), .second, .val (.int i2), .val (.int ((i0 &&& (2147483647 : Int32)) % (6 : Int32))), .val (.ref w_SUBSCRIBER_IDS), .val (.long (1 : Int64)), .second, .val (.long (1000 : Int64)), .second, .val (.long ((1 : Int64) + ((i1 &&& (9223372036854775807 : Int64)) - ((i1 &&& (9223372036854775807 : Int64)) / (((1000 : Int64) - (1 : Int64)) + (1 : Int64))) * (((1000 : Int64) - (1 : Int64)) + (1 : Int64))))), .second, .val (.ref b142)] [(.long (1000 : Int64)), (.long ((1 : Int64) + ((i1 &&& (9223372036854775807 : Int64)) - ((i1 &&& (9223372036854775807 : Int64)) / (((1000 : Int64) - (1 : Int64)) + (1 : Int64))) * (((1000 : Int64) - (1 : Int64)) + (1 : Int64)))))]))
            refine OGo.by (fun _ k => XS.lcmp X167.here hx rfl (hb hby at_215) rfl k) ?_
            show OGo p e below _ (T167.setTop (mkF m 216 #[.val (.int i0), .val (.long i1), .second, .val (.int i2), .val (.int ((i0 &&& (2147483647 : Int32)) % (6 : Int32))), .val (.ref w_SUBSCRIBER_IDS), .val (.long (1 : Int64)), .second, .val (.long (1000 : Int64)), .second, .val (.long ((1 : Int64) + ((i1 &&& (9223372036854775807 : Int64)) - ((i1 &&& (9223372036854775807 : Int64)) / (((1000 : Int64) - (1 : Int64)) + (1 : Int64))) * (((1000 : Int64) - (1 : Int64)) + (1 : Int64))))), .second, .val (.ref b142)] [(.int (lcmpW ((1 : Int64) + ((i1 &&& (9223372036854775807 : Int64)) - ((i1 &&& (9223372036854775807 : Int64)) / (((1000 : Int64) - (1 : Int64)) + (1 : Int64))) * (((1000 : Int64) - (1 : Int64)) + (1 : Int64)))) (1000 : Int64)))]))
            refine OGo.by (fun _ k => XS.ifNo X167.here hx rfl (hb hby at_216) rfl ((if0 _ _).trans (flt (mt (lw_gt _ _).mp (own_ngt (own_rng (hi := (1000 : Int64)) 1 1000 (by decide) (by decide) (by decide) (by decide) (by decide) (own_nn i1)).2 (by decide)))).2.2.1) k) ?_
            show OGo p e below _ (T167.setTop (mkF m 219 #[.val (.int i0), .val (.long i1), .second, .val (.int i2), .val (.int ((i0 &&& (2147483647 : Int32)) % (6 : Int32))), .val (.ref w_SUBSCRIBER_IDS), .val (.long (1 : Int64)), .second, .val (.long (1000 : Int64)), .second, .val (.long ((1 : Int64) + ((i1 &&& (9223372036854775807 : Int64)) - ((i1 &&& (9223372036854775807 : Int64)) / (((1000 : Int64) - (1 : Int64)) + (1 : Int64))) * (((1000 : Int64) - (1 : Int64)) + (1 : Int64))))), .second, .val (.ref b142)] []))
            refine OGo.by (fun _ k => XS.iconst X167.here hx rfl (hb hby at_219) k) ?_
            show OGo p e below _ (T167.setTop (mkF m 220 #[.val (.int i0), .val (.long i1), .second, .val (.int i2), .val (.int ((i0 &&& (2147483647 : Int32)) % (6 : Int32))), .val (.ref w_SUBSCRIBER_IDS), .val (.long (1 : Int64)), .second, .val (.long (1000 : Int64)), .second, .val (.long ((1 : Int64) + ((i1 &&& (9223372036854775807 : Int64)) - ((i1 &&& (9223372036854775807 : Int64)) / (((1000 : Int64) - (1 : Int64)) + (1 : Int64))) * (((1000 : Int64) - (1 : Int64)) + (1 : Int64))))), .second, .val (.ref b142)] [(.int (1 : Int32))]))
            refine OGo.by (fun _ k => XS.goto X167.here hx rfl (pc0 := 220) (pc' := 224) rfl (hb hby at_220) (by decide) (by decide) k) ?_
            show OGo p e below _ (T167.setTop (mkF m 224 #[.val (.int i0), .val (.long i1), .second, .val (.int i2), .val (.int ((i0 &&& (2147483647 : Int32)) % (6 : Int32))), .val (.ref w_SUBSCRIBER_IDS), .val (.long (1 : Int64)), .second, .val (.long (1000 : Int64)), .second, .val (.long ((1 : Int64) + ((i1 &&& (9223372036854775807 : Int64)) - ((i1 &&& (9223372036854775807 : Int64)) / (((1000 : Int64) - (1 : Int64)) + (1 : Int64))) * (((1000 : Int64) - (1 : Int64)) + (1 : Int64))))), .second, .val (.ref b142)] [(.int (1 : Int32))]))
            obtain ⟨fs, hr, hrun, hended, hW, hsame⟩ := X167.leave (v := some (.int (1 : Int32))) (fun h => by rw [Bd.returns] at h; cases h)
            refine OGo.ret (retN X167 hx (t := .boolean) Bd.returns (by simp) (hb hby at_224) hr) hrun hended ⟨_, _, rfl, ?_, ⟨_, rfl⟩, hW, hsame.mono (by decide) (by decide)⟩
            show Q_rm0 Z i0 i1 i2 w_NAME w_TITLE w_BODY w_RECIPIENTS w_MEMBERS w_SUBSCRIBER_IDS cz h0 n0 _ T167.heap _
            rw [e167]
            exact ⟨rfl, N167⟩
set_option maxRecDepth 65536 in
set_option maxHeartbeats 40000000 in
theorem comes_1 {Post : Tables → Env → Array Value → State → Outcome → State → Prop} (hpost : ∀ tb e args s v u, (limb_1_1.after args s (.returned v) u = true ∧ limb_1_2.after args s (.returned v) u = true ∧ True) → FrameEnd s (.returned v) u (Jvm.fieldLocs frame_1_writes args s ++ Jvm.arrayLocs frame_1_arrays args s ++ Jvm.staticLocs frame_1_statics s) 16 128 → Post tb e args s (.returned v) u) :
    ArmFor flags0 classFile x code maxLocals ret World_1 tables_1 room_1 Calls_1 rest_1 Pre_1 Post := by
  intro l hfl _ _ p e ha hc hk s m args below hf hA hF happ hP
  obtain ⟨hcalls, hrest, hpre⟩ := hP
  obtain ⟨-, -, -, hnamed, -, -, -, hat⟩ := (Spec.applies_iff hf).mp happ
  obtain ⟨hg, hn⟩ := and_e (Cond.before_iff.mp (show (Jvm.Cond.and given_1 narrow_1).before args s = true from hpre))
  obtain ⟨hg0, hgr⟩ := and_e hg
  obtain ⟨hv0, hgr0⟩ := and_e hgr
  obtain ⟨hv1, hgr1⟩ := and_e hgr0
  obtain ⟨w0, w1, w2, rfl⟩ : ∃ w0 w1 w2 : Value, args = #[w0, w1, w2] := by
    have hs : args.size = 3 := by simpa [Cond.value, given_1] using hg0
    obtain ⟨L⟩ := args
    match L, hs with
    | [w0, w1, w2], _ => exact ⟨w0, w1, w2, rfl⟩
  have hw := fun d (hd : d ∈ tables_1) => atoms_spec (ws := Jvm.Cond.code x code maxLocals ret :: tables_1) hat d (List.mem_cons_of_mem _ hd)
  have hfit : Fit s := fun {y c} hc i hi => by
    obtain ⟨ha, rfl⟩ := Array.getElem?_eq_some_iff.mp hc
    have q := List.all_eq_true.mp ((Array.all_eq_true_iff_forall_mem.mp hF) _ (Array.getElem_mem ha)) i (List.mem_range.mpr hi)
    simpa [Array.getElem?_eq_getElem hi] using q
  obtain ⟨hsets, hown0⟩ := atoms_of _ (rest_1_c_eq ▸ (show rest_1_c.before _ s = true from hrest))
  have hr0 := Cond.before_iff.mp hown0
  obtain ⟨i0, ei0⟩ := is_v hv0
  obtain rfl : w0 = (.int i0) := Option.some.inj ei0
  obtain ⟨i1, ei1⟩ := isL_v hv1
  obtain rfl : w1 = (.long i1) := Option.some.inj ei1
  obtain ⟨i2, ei2⟩ := is_v hgr1
  obtain rfl : w2 = (.int i2) := Option.some.inj ei2
  obtain ⟨na1, nb1⟩ := and_e hn
  obtain ⟨na2, nb2⟩ := and_e nb1
  obtain ⟨na3, nb3⟩ := and_e nb2
  obtain ⟨na4, nb4⟩ := and_e nb3
  obtain ⟨na5, nb5⟩ := and_e nb4
  obtain ⟨na6, nb6⟩ := and_e nb5
  obtain ⟨na7, nb7⟩ := and_e nb6
  obtain ⟨na8, nb8⟩ := and_e nb7
  obtain ⟨na9, nb9⟩ := and_e nb8
  obtain ⟨na10, nb10⟩ := and_e nb9
  obtain ⟨na11, nb11⟩ := and_e nb10
  obtain ⟨na12, nb12⟩ := and_e nb11
  obtain ⟨na13, nb13⟩ := and_e nb12
  obtain ⟨na14, nb14⟩ := and_e nb13
  obtain ⟨na15, nb15⟩ := and_e nb14
  obtain ⟨na16, nb16⟩ := and_e nb15
  obtain ⟨na17, nb17⟩ := and_e nb16
  obtain ⟨w_NAME, v_NAME⟩ := exa_v na1
  have S_NAME := Sta.start v_NAME (Or.inr ⟨(hw _ (List.mem_of_getElem? (i := 2) rfl)), (hw _ (List.mem_of_getElem? (i := 3) rfl))⟩)
  have E_NAME := Exa.start v_NAME na1
  obtain ⟨w_TITLE, v_TITLE⟩ := exa_v na4
  have S_TITLE := Sta.start v_TITLE (Or.inr ⟨(hw _ (List.mem_of_getElem? (i := 2) rfl)), (hw _ (List.mem_of_getElem? (i := 56) rfl))⟩)
  have E_TITLE := Exa.start v_TITLE na4
  obtain ⟨w_MEMBERS, v_MEMBERS⟩ := exa_v na7
  have S_MEMBERS := Sta.start v_MEMBERS (Or.inr ⟨(hw _ (List.mem_of_getElem? (i := 2) rfl)), (hw _ (List.mem_of_getElem? (i := 59) rfl))⟩)
  have E_MEMBERS := Exa.start v_MEMBERS na7
  obtain ⟨w_RECIPIENTS, v_RECIPIENTS⟩ := exa_v na10
  have S_RECIPIENTS := Sta.start v_RECIPIENTS (Or.inr ⟨(hw _ (List.mem_of_getElem? (i := 2) rfl)), (hw _ (List.mem_of_getElem? (i := 62) rfl))⟩)
  have E_RECIPIENTS := Exa.start v_RECIPIENTS na10
  obtain ⟨w_BODY, v_BODY⟩ := exa_v na13
  have S_BODY := Sta.start v_BODY (Or.inr ⟨(hw _ (List.mem_of_getElem? (i := 2) rfl)), (hw _ (List.mem_of_getElem? (i := 64) rfl))⟩)
  have E_BODY := Exa.start v_BODY na13
  obtain ⟨w_SUBSCRIBER_IDS, v_SUBSCRIBER_IDS⟩ := exa_v na16
  have S_SUBSCRIBER_IDS := Sta.start v_SUBSCRIBER_IDS (Or.inr ⟨(hw _ (List.mem_of_getElem? (i := 2) rfl)), (hw _ (List.mem_of_getElem? (i := 67) rfl))⟩)
  have E_SUBSCRIBER_IDS := Exa.start v_SUBSCRIBER_IDS na16
  have F_NAME_min := Fld.start ((fld_at v_NAME).symm.trans (own_eqI na2))
  have F_NAME_max := Fld.start ((fld_at v_NAME).symm.trans (own_eqI na3))
  have F_TITLE_min := Fld.start ((fld_at v_TITLE).symm.trans (own_eqI na5))
  have F_TITLE_max := Fld.start ((fld_at v_TITLE).symm.trans (own_eqI na6))
  have F_MEMBERS_min := Fld.start ((fld_at v_MEMBERS).symm.trans (own_eqI na8))
  have F_MEMBERS_max := Fld.start ((fld_at v_MEMBERS).symm.trans (own_eqI na9))
  have F_RECIPIENTS_min := Fld.start ((fld_at v_RECIPIENTS).symm.trans (own_eqI na11))
  have F_RECIPIENTS_max := Fld.start ((fld_at v_RECIPIENTS).symm.trans (own_eqI na12))
  have F_BODY_min := Fld.start ((fld_at v_BODY).symm.trans (own_eqI na14))
  have F_BODY_max := Fld.start ((fld_at v_BODY).symm.trans (own_eqI na15))
  have F_SUBSCRIBER_IDS_min := Fld.start ((fld_at v_SUBSCRIBER_IDS).symm.trans (own_eqI na17))
  have F_SUBSCRIBER_IDS_max := Fld.start ((fld_at v_SUBSCRIBER_IDS).symm.trans (own_eqI nb17))
  obtain ⟨cz, vcz⟩ := is_v (Cond.before_iff.mp (hsets _ (List.mem_of_getElem? (i := 1) rfl)))
  have S1 := Sta.start vcz (Or.inl (hsets _ (List.mem_of_getElem? (i := 0) rfl)))
  have hcz : ¬ cz = (0 : Int32) := gotF (Cond.eq_ints vcz (Term.int_eval 0)) (not_v (Cond.before_iff.mp (hsets _ (List.mem_of_getElem? (i := 2) rfl))))
  obtain ⟨n, o, h1, h2, h3, _, L, rfl, ⟨rfl, N⟩, hq⟩ := rm0 l s _ hw tables_1 i0 i1 i2 w_NAME w_TITLE w_BODY w_RECIPIENTS w_MEMBERS w_SUBSCRIBER_IDS cz s.heap s.heap.size (Nat.le_refl _) S_NAME E_NAME F_NAME_min F_NAME_max S_TITLE E_TITLE F_TITLE_min F_TITLE_max S_BODY E_BODY F_BODY_min F_BODY_max S_RECIPIENTS E_RECIPIENTS F_RECIPIENTS_min F_RECIPIENTS_max S_MEMBERS E_MEMBERS F_MEMBERS_min F_MEMBERS_max S_SUBSCRIBER_IDS E_SUBSCRIBER_IDS F_SUBSCRIBER_IDS_min F_SUBSCRIBER_IDS_max (Old.start s) S1 hcz p e ha hc hk s m _ below hf ((Spec.applies_iff_loose hf).mp happ).1 ⟨rfl, State.Warmed39.refl s, rfl⟩ trivial
  refine ⟨n, _, h1, h2, h3, hpost _ _ _ _ _ _ ⟨Cond.after_iff.mpr rfl, Cond.after_iff.mpr (eq_i res_at (Term.int_eval (1)) rfl), trivial⟩ ⟨hq.1, hq.2.1, (hq.2.2.sift fun y hy => Or.inr (N y hy)).mono (by decide) (by decide)⟩⟩
theorem main_1_1 : Claimed_1_1 := comes_1 fun _ _ _ _ _ _ h hF => ⟨h.1, hF⟩
theorem main_1_2 : Claimed_1_2 := comes_1 fun _ _ _ _ _ _ h hF => ⟨h.2.1, hF⟩
end Jvm.Pilot.@@N@@
namespace Jvm.Pilot.@@N@@
open Jvm Jvm.ClassFile Sem Op Lib Jvm.Free Jvm.Stand Jvm.Pilot.@@N@@.Jvm.D
/-! MADE BY PROGRAM (witnessworld.py) out of the Statement's table words and the real class files: 21 classes; the members and pool entries that the words name. The judged class is class 1, her method 1. -/
namespace start1
open Jvm.ClassFile
def u (s : String) : CpInfo := .utf8 (stringToUtf16 s)
/-- a pool by its gaps: so many unusable entries, then the entry; so many at the end -/
def gap : Nat → List CpInfo → List CpInfo
  | 0, r => r
  | n + 1, r => .unusable :: gap n r
def poolList (es : List (Nat × CpInfo)) (last : Nat) : List CpInfo := es.foldr (fun e r => gap e.1 (e.2 :: r)) (gap last [])
def pool (es : List (Nat × CpInfo)) (last : Nat) : Array CpInfo := ⟨poolList es last⟩
def fileOf (pool : Array CpInfo) (this : Nat) (attrs : Array Attribute := #[]) (ms : Array MethodInfo := #[]) (fl : Nat := 33) (sup : Nat := 0) (ifs : Array Nat := #[]) (fds : Array FieldInfo := #[]) : ClassFile where
  minorVersion := 0
  majorVersion := 65
  constantPool := pool
  accessFlags := fl
  thisClass := this
  superClass := sup
  interfaces := ifs
  fields := fds
  methods := ms
  attributes := attrs
def plain (name : String) (sup : Option ClassId) : Class where
  name := name
  kind := .ordinary
  loader := none
  accessFlags := 33
  super := sup
  interfaces := #[]
  cf := none
  fields := #[]
  methods := #[]
  instanceTypes := #[]
  staticTypes := #[]
  resolved := #[]
  callSites := []
  init := .initialized
  statics := none
  mirror := none

def pool0 : Array CpInfo := pool [(5, u "<init>"), (0, u "()V"), (1, .class_ 10), (1, u "java/lang/Object")] 113

def k0c0 : Code := { maxStack := 0, maxLocals := 1, code := object_method_1_code, exceptionTable := #[], attributes := #[] }
def k0m0 : Method := { name := "<init>", desc := "()V", sig := { parameters := [], returnType := none }, accessFlags := 1, code := some k0c0 }
/-- java/lang/Object -/
def k0 : Class := { plain "java/lang/Object" none with
  accessFlags := 33
  interfaces := #[]
  cf := some (fileOf pool0 8 #[] #[{ accessFlags := 1, nameIndex := 5, descriptorIndex := 6, attributes := #[] }] 33 0 #[] #[])
  fields := #[]
  methods := #[k0m0]
  instanceTypes := #[]
  staticTypes := #[]
  resolved := Array.replicate 124 none
  statics := none }

def pool1 : Array CpInfo := pool [(2, .class_ 4), (1, u "java/lang/Object"), (0, u "<init>"), (0, u "()V"), (0, .integer 2147483647), (0, .fieldref 9 10), (0, .class_ 11), (0, .nameAndType 12 13), (0, u "com/example/kept_inbox/keptinbox/Limit"), (0, u "NAME"), (0, u "Lcom/example/kept_inbox/keptinbox/Limit;"), (0, .long 256), (1, .fieldref 9 17), (0, .nameAndType 18 13), (0, u "TITLE"), (0, .long 1024), (1, .fieldref 9 22), (0, .nameAndType 23 13), (0, u "BODY"), (0, .long 1048576), (1, .fieldref 9 27), (0, .nameAndType 28 13), (0, u "RECIPIENTS"), (0, .long 1000), (1, .fieldref 9 32), (0, .nameAndType 33 13), (0, u "MEMBERS"), (0, .fieldref 9 35), (0, .nameAndType 36 13), (0, u "SUBSCRIBER_IDS"), (0, .long 9223372036854775807), (1, .class_ 40), (0, u "java/lang/String"), (0, .methodref 39 42), (0, .nameAndType 5 43), (0, u "([C)V"), (0, .methodref 9 45), (0, .nameAndType 46 47), (0, u "check"), (0, u "(Ljava/lang/String;J)V"), (0, .methodref 9 49), (0, .nameAndType 50 51), (0, u "min"), (0, u "()I"), (0, .methodref 9 53), (0, .nameAndType 54 51), (0, u "max"), (0, .class_ 56), (0, u "com/example/kept_inbox/keptinbox/LimitCheckPinLaw"), (2, u "law"), (0, u "(IJI)Z")] 3

def k1m0 : Method := { name := "<init>", desc := "()V", sig := { parameters := [], returnType := none }, accessFlags := 1, code := none }
def k1c1 : Code := { maxStack := 8, maxLocals := 13, code := code, exceptionTable := #[], attributes := #[] }
def k1m1 : Method := { name := "law", desc := "(IJI)Z", sig := { parameters := [.int, .long, .int], returnType := some .boolean }, accessFlags := 9, code := some k1c1 }
/-- com/example/kept_inbox/keptinbox/LimitCheckPinLaw -/
def k1 : Class := { plain "com/example/kept_inbox/keptinbox/LimitCheckPinLaw" (some 0) with
  accessFlags := 49
  interfaces := #[]
  cf := some (fileOf pool1 55 #[] #[{ accessFlags := 1, nameIndex := 5, descriptorIndex := 6, attributes := #[] }, { accessFlags := 9, nameIndex := 59, descriptorIndex := 60, attributes := #[] }] 49 2 #[] #[])
  fields := #[]
  methods := #[k1m0, k1m1]
  instanceTypes := #[]
  staticTypes := #[]
  resolved := Array.replicate 64 none
  statics := none }

def pool2 : Array CpInfo := pool [(1, .class_ 2), (0, u "java/lang/constant/Constable"), (0, .class_ 4), (0, u "java/lang/Object")] 6

/-- java/lang/constant/Constable -/
def k2 : Class := { plain "java/lang/constant/Constable" (some 0) with
  accessFlags := 1537
  interfaces := #[]
  cf := some (fileOf pool2 1 #[] #[] 1537 3 #[] #[])
  fields := #[]
  methods := #[]
  instanceTypes := #[]
  staticTypes := #[]
  resolved := Array.replicate 11 none
  statics := none }

def pool3 : Array CpInfo := pool [(1, .class_ 2), (0, u "java/lang/Comparable"), (0, .class_ 4), (0, u "java/lang/Object")] 7

/-- java/lang/Comparable -/
def k3 : Class := { plain "java/lang/Comparable" (some 0) with
  accessFlags := 1537
  interfaces := #[]
  cf := some (fileOf pool3 1 #[] #[] 1537 3 #[] #[])
  fields := #[]
  methods := #[]
  instanceTypes := #[]
  staticTypes := #[]
  resolved := Array.replicate 12 none
  statics := none }

def pool4 : Array CpInfo := pool [(1, .class_ 2), (0, u "java/io/Serializable"), (0, .class_ 4), (0, u "java/lang/Object")] 2

/-- java/io/Serializable -/
def k4 : Class := { plain "java/io/Serializable" (some 0) with
  accessFlags := 1537
  interfaces := #[]
  cf := some (fileOf pool4 1 #[] #[] 1537 3 #[] #[])
  fields := #[]
  methods := #[]
  instanceTypes := #[]
  staticTypes := #[]
  resolved := Array.replicate 7 none
  statics := none }

def pool5 : Array CpInfo := pool [(2, .class_ 4), (1, u "java/lang/Enum"), (0, u "name"), (0, u "Ljava/lang/String;"), (2, u "ordinal"), (0, u "I"), (1, .class_ 14), (1, u "java/lang/Object"), (4, u "hash"), (86, .class_ 108), (1, u "java/lang/Enum$EnumDesc"), (2, .class_ 112), (0, u "java/lang/constant/Constable"), (0, .class_ 114), (0, u "java/lang/Comparable"), (0, .class_ 116), (0, u "java/io/Serializable")] 87

/-- java/lang/Enum -/
def k5 : Class := { plain "java/lang/Enum" (some 0) with
  accessFlags := 1057
  interfaces := #[2, 3, 4]
  cf := some (fileOf pool5 2 #[.nestMembers #[106]] #[] 1057 12 #[111, 113, 115] #[{ accessFlags := 18, nameIndex := 5, descriptorIndex := 6, attributes := #[] }, { accessFlags := 18, nameIndex := 9, descriptorIndex := 10, attributes := #[] }, { accessFlags := 2, nameIndex := 19, descriptorIndex := 10, attributes := #[] }])
  fields := #[{ name := "name", type := (.object "java/lang/String"), accessFlags := 18, slot := 0, constantValue := 0 }, { name := "ordinal", type := .int, accessFlags := 18, slot := 1, constantValue := 0 }, { name := "hash", type := .int, accessFlags := 2, slot := 2, constantValue := 0 }]
  methods := #[]
  instanceTypes := #[(.object "java/lang/String"), .int, .int]
  staticTypes := #[]
  resolved := Array.replicate 204 none
  statics := none }

def pool6 : Array CpInfo := pool [(1, .class_ 2), (0, u "com/example/kept_inbox/keptinbox/Limit"), (2, u "NAME"), (0, u "Lcom/example/kept_inbox/keptinbox/Limit;"), (2, u "TITLE"), (2, u "BODY"), (2, u "RECIPIENTS"), (2, u "MEMBERS"), (2, u "SUBSCRIBER_IDS"), (2, u "$VALUES"), (0, u "[Lcom/example/kept_inbox/keptinbox/Limit;"), (6, .class_ 34), (1, u "java/lang/Enum"), (11, .fieldref 1 47), (0, .nameAndType 48 49), (0, u "min"), (0, u "I"), (0, .fieldref 1 51), (0, .nameAndType 52 49), (0, u "max"), (2, u "unit"), (0, u "Ljava/lang/String;"), (41, u "()I"), (0, u "check"), (0, u "(Ljava/lang/String;J)V")] 21

def k6c0 : Code := { maxStack := 1, maxLocals := 1, code := prog_3_method_5_code, exceptionTable := #[], attributes := #[] }
def k6m0 : Method := { name := "min", desc := "()I", sig := { parameters := [], returnType := some .int }, accessFlags := 1, code := some k6c0 }
def k6c1 : Code := { maxStack := 1, maxLocals := 1, code := prog_3_method_6_code, exceptionTable := #[], attributes := #[] }
def k6m1 : Method := { name := "max", desc := "()I", sig := { parameters := [], returnType := some .int }, accessFlags := 1, code := some k6c1 }
def k6c2 : Code := { maxStack := 11, maxLocals := 4, code := prog_3_method_7_code, exceptionTable := #[], attributes := #[] }
def k6m2 : Method := { name := "check", desc := "(Ljava/lang/String;J)V", sig := { parameters := [(.object "java/lang/String"), .long], returnType := none }, accessFlags := 0, code := some k6c2 }
/-- com/example/kept_inbox/keptinbox/Limit -/
def k6 : Class := { plain "com/example/kept_inbox/keptinbox/Limit" (some 5) with
  accessFlags := 16433
  interfaces := #[]
  cf := some (fileOf pool6 1 #[] #[{ accessFlags := 1, nameIndex := 48, descriptorIndex := 98, attributes := #[] }, { accessFlags := 1, nameIndex := 52, descriptorIndex := 98, attributes := #[] }, { accessFlags := 0, nameIndex := 99, descriptorIndex := 100, attributes := #[] }] 16433 32 #[] #[{ accessFlags := 16409, nameIndex := 5, descriptorIndex := 6, attributes := #[] }, { accessFlags := 16409, nameIndex := 9, descriptorIndex := 6, attributes := #[] }, { accessFlags := 16409, nameIndex := 12, descriptorIndex := 6, attributes := #[] }, { accessFlags := 16409, nameIndex := 15, descriptorIndex := 6, attributes := #[] }, { accessFlags := 16409, nameIndex := 18, descriptorIndex := 6, attributes := #[] }, { accessFlags := 16409, nameIndex := 21, descriptorIndex := 6, attributes := #[] }, { accessFlags := 18, nameIndex := 48, descriptorIndex := 49, attributes := #[] }, { accessFlags := 18, nameIndex := 52, descriptorIndex := 49, attributes := #[] }, { accessFlags := 18, nameIndex := 55, descriptorIndex := 56, attributes := #[] }, { accessFlags := 4122, nameIndex := 24, descriptorIndex := 25, attributes := #[] }])
  fields := #[{ name := "NAME", type := (.object "com/example/kept_inbox/keptinbox/Limit"), accessFlags := 16409, slot := 0, constantValue := 0 }, { name := "TITLE", type := (.object "com/example/kept_inbox/keptinbox/Limit"), accessFlags := 16409, slot := 1, constantValue := 0 }, { name := "BODY", type := (.object "com/example/kept_inbox/keptinbox/Limit"), accessFlags := 16409, slot := 2, constantValue := 0 }, { name := "RECIPIENTS", type := (.object "com/example/kept_inbox/keptinbox/Limit"), accessFlags := 16409, slot := 3, constantValue := 0 }, { name := "MEMBERS", type := (.object "com/example/kept_inbox/keptinbox/Limit"), accessFlags := 16409, slot := 4, constantValue := 0 }, { name := "SUBSCRIBER_IDS", type := (.object "com/example/kept_inbox/keptinbox/Limit"), accessFlags := 16409, slot := 5, constantValue := 0 }, { name := "min", type := .int, accessFlags := 18, slot := 3, constantValue := 0 }, { name := "max", type := .int, accessFlags := 18, slot := 4, constantValue := 0 }, { name := "unit", type := (.object "java/lang/String"), accessFlags := 18, slot := 5, constantValue := 0 }, { name := "$VALUES", type := (.array (.object "com/example/kept_inbox/keptinbox/Limit")), accessFlags := 4122, slot := 6, constantValue := 0 }]
  methods := #[k6m0, k6m1, k6m2]
  instanceTypes := #[(.object "java/lang/String"), .int, .int, .int, .int, (.object "java/lang/String")]
  staticTypes := #[(.object "com/example/kept_inbox/keptinbox/Limit"), (.object "com/example/kept_inbox/keptinbox/Limit"), (.object "com/example/kept_inbox/keptinbox/Limit"), (.object "com/example/kept_inbox/keptinbox/Limit"), (.object "com/example/kept_inbox/keptinbox/Limit"), (.object "com/example/kept_inbox/keptinbox/Limit"), (.array (.object "com/example/kept_inbox/keptinbox/Limit"))]
  resolved := Array.replicate 122 none
  statics := some 0 }

def pool7 : Array CpInfo := pool [(2, .class_ 4), (1, u "java/lang/CharSequence"), (42, .class_ 48), (0, u "java/lang/CharSequence$1CodePointIterator"), (10, .class_ 60), (0, u "java/lang/CharSequence$1CharIterator"), (5, .class_ 67), (0, u "java/lang/Object")] 63

/-- java/lang/CharSequence -/
def k7 : Class := { plain "java/lang/CharSequence" (some 0) with
  accessFlags := 1537
  interfaces := #[]
  cf := some (fileOf pool7 2 #[.nestMembers #[47, 59]] #[] 1537 66 #[] #[])
  fields := #[]
  methods := #[]
  instanceTypes := #[]
  staticTypes := #[]
  resolved := Array.replicate 131 none
  statics := none }

def pool8 : Array CpInfo := pool [(1, .class_ 2), (0, u "java/lang/constant/ConstantDesc"), (0, .class_ 4), (0, u "java/lang/Object")] 32

/-- java/lang/constant/ConstantDesc -/
def k8 : Class := { plain "java/lang/constant/ConstantDesc" (some 0) with
  accessFlags := 1537
  interfaces := #[]
  cf := some (fileOf pool8 1 #[] #[] 1537 3 #[] #[])
  fields := #[]
  methods := #[]
  instanceTypes := #[]
  staticTypes := #[]
  resolved := Array.replicate 37 none
  statics := none }

def pool9 : Array CpInfo := pool [(1, .methodref 2 3), (0, .class_ 4), (0, .nameAndType 5 6), (0, u "java/lang/Object"), (0, u "<init>"), (0, u "()V"), (2, .fieldref 10 11), (0, .class_ 12), (0, .nameAndType 13 14), (0, u "java/lang/String"), (0, u "value"), (0, u "[B"), (0, .fieldref 10 16), (0, .nameAndType 17 18), (0, u "coder"), (0, u "B"), (2, u "hash"), (0, u "I"), (2, u "hashIsZero"), (0, u "Z"), (0, .methodref 10 28), (0, .nameAndType 5 29), (0, u "([CIILjava/lang/Void;)V"), (8, .fieldref 10 39), (0, .nameAndType 40 26), (0, u "COMPACT_STRINGS"), (1, .class_ 44), (1, u "java/lang/StringUTF16"), (0, u "compress"), (1, .methodref 42 48), (0, .nameAndType 49 50), (0, u "coderFromArrayLen"), (0, u "([BI)B"), (126, .methodref 42 178), (0, .nameAndType 45 179), (0, u "([CII)[B"), (395, .class_ 576), (0, u "java/lang/CharSequence"), (22, u "CASE_INSENSITIVE_ORDER"), (0, u "Ljava/util/Comparator;"), (409, u "([C)V"), (90, u "serialPersistentFields"), (0, u "[Ljava/io/ObjectStreamField;"), (0, .class_ 1104), (0, u "java/lang/String$CaseInsensitiveComparator"), (1, .class_ 1107), (0, u "java/io/Serializable"), (0, .class_ 1109), (0, u "java/lang/Comparable"), (0, .class_ 1111), (0, u "java/lang/constant/Constable"), (0, .class_ 1113), (0, u "java/lang/constant/ConstantDesc"), (2, u "serialVersionUID"), (0, u "J"), (3, u "REPL"), (0, u "C"), (2, u "LATIN1"), (1, u "UTF16")] 323

def k9m0 : Method := { name := "<init>", desc := "()V", sig := { parameters := [], returnType := none }, accessFlags := 1, code := none }
def k9c1 : Code := { maxStack := 5, maxLocals := 2, code := jdk_42_method_3_code, exceptionTable := #[], attributes := #[] }
def k9m1 : Method := { name := "<init>", desc := "([C)V", sig := { parameters := [(.array .char)], returnType := none }, accessFlags := 1, code := some k9c1 }
def k9c2 : Code := { maxStack := 4, maxLocals := 6, code := jdk_42_method_149_code, exceptionTable := #[], attributes := #[] }
def k9m2 : Method := { name := "<init>", desc := "([CIILjava/lang/Void;)V", sig := { parameters := [(.array .char), .int, .int, (.object "java/lang/Void")], returnType := none }, accessFlags := 2, code := some k9c2 }
/-- java/lang/String -/
def k9 : Class := { plain "java/lang/String" (some 0) with
  accessFlags := 49
  interfaces := #[4, 3, 7, 2, 8]
  cf := some (fileOf pool9 10 #[.nestMembers #[1103]] #[{ accessFlags := 1, nameIndex := 5, descriptorIndex := 6, attributes := #[] }, { accessFlags := 1, nameIndex := 5, descriptorIndex := 1010, attributes := #[] }, { accessFlags := 2, nameIndex := 5, descriptorIndex := 29, attributes := #[] }] 49 2 #[1106, 1108, 575, 1110, 1112] #[{ accessFlags := 18, nameIndex := 13, descriptorIndex := 14, attributes := #[] }, { accessFlags := 18, nameIndex := 17, descriptorIndex := 18, attributes := #[] }, { accessFlags := 2, nameIndex := 21, descriptorIndex := 22, attributes := #[] }, { accessFlags := 2, nameIndex := 25, descriptorIndex := 26, attributes := #[] }, { accessFlags := 26, nameIndex := 1116, descriptorIndex := 1117, attributes := #[] }, { accessFlags := 24, nameIndex := 40, descriptorIndex := 26, attributes := #[] }, { accessFlags := 26, nameIndex := 1101, descriptorIndex := 1102, attributes := #[] }, { accessFlags := 26, nameIndex := 1121, descriptorIndex := 1122, attributes := #[] }, { accessFlags := 25, nameIndex := 599, descriptorIndex := 600, attributes := #[] }, { accessFlags := 24, nameIndex := 1125, descriptorIndex := 18, attributes := #[] }, { accessFlags := 24, nameIndex := 1127, descriptorIndex := 18, attributes := #[] }])
  fields := #[{ name := "value", type := (.array .byte), accessFlags := 18, slot := 0, constantValue := 0 }, { name := "coder", type := .byte, accessFlags := 18, slot := 1, constantValue := 0 }, { name := "hash", type := .int, accessFlags := 2, slot := 2, constantValue := 0 }, { name := "hashIsZero", type := .boolean, accessFlags := 2, slot := 3, constantValue := 0 }, { name := "serialVersionUID", type := .long, accessFlags := 26, slot := 0, constantValue := 0 }, { name := "COMPACT_STRINGS", type := .boolean, accessFlags := 24, slot := 1, constantValue := 0 }, { name := "serialPersistentFields", type := (.array (.object "java/io/ObjectStreamField")), accessFlags := 26, slot := 2, constantValue := 0 }, { name := "REPL", type := .char, accessFlags := 26, slot := 3, constantValue := 0 }, { name := "CASE_INSENSITIVE_ORDER", type := (.object "java/util/Comparator"), accessFlags := 25, slot := 4, constantValue := 0 }, { name := "LATIN1", type := .byte, accessFlags := 24, slot := 5, constantValue := 0 }, { name := "UTF16", type := .byte, accessFlags := 24, slot := 6, constantValue := 0 }]
  methods := #[k9m0, k9m1, k9m2]
  instanceTypes := #[(.array .byte), .byte, .int, .boolean]
  staticTypes := #[.long, .boolean, (.array (.object "java/io/ObjectStreamField")), .char, (.object "java/util/Comparator"), .byte, .byte]
  resolved := Array.replicate 1451 none
  statics := some 1 }

def pool10 : Array CpInfo := pool [(6, .class_ 8), (1, u "java/lang/Object"), (0, u "<init>"), (0, u "()V"), (1, .class_ 14), (1, u "java/lang/StringUTF16"), (31, u "$assertionsDisabled"), (0, u "Z"), (13, u "HI_BYTE_SHIFT"), (0, u "I"), (2, u "LO_BYTE_SHIFT"), (49, .methodref 12 116), (0, .nameAndType 117 118), (0, u "compress"), (0, u "([CI[BII)I"), (3, u "([CII)[B"), (138, u "coderFromArrayLen"), (0, u "([BI)B"), (106, .class_ 371), (1, u "java/lang/StringUTF16$LinesSpliterator"), (58, u "MAX_LENGTH"), (196, .class_ 628), (0, u "java/lang/StringUTF16$CodePointsSpliterator"), (0, .class_ 630), (0, u "java/lang/StringUTF16$CharsSpliterator")] 4

def k10m0 : Method := { name := "<init>", desc := "()V", sig := { parameters := [], returnType := none }, accessFlags := 0, code := none }
def k10c1 : Code := { maxStack := 2, maxLocals := 2, code := jdk_52_method_15_code, exceptionTable := #[], attributes := #[] }
def k10m1 : Method := { name := "coderFromArrayLen", desc := "([BI)B", sig := { parameters := [(.array .byte), .int], returnType := some .byte }, accessFlags := 8, code := some k10c1 }
def k10c2 : Code := { maxStack := 5, maxLocals := 6, code := jdk_52_method_16_code, exceptionTable := #[], attributes := #[] }
def k10m2 : Method := { name := "compress", desc := "([CII)[B", sig := { parameters := [(.array .char), .int, .int], returnType := some (.array .byte) }, accessFlags := 9, code := some k10c2 }
def k10c3 : Code := { maxStack := 3, maxLocals := 7, code := jdk_52_method_21_code, exceptionTable := #[], attributes := #[] }
def k10m3 : Method := { name := "compress", desc := "([CI[BII)I", sig := { parameters := [(.array .char), .int, (.array .byte), .int, .int], returnType := some .int }, accessFlags := 9, code := some k10c3 }
/-- java/lang/StringUTF16 -/
def k10 : Class := { plain "java/lang/StringUTF16" (some 0) with
  accessFlags := 48
  interfaces := #[]
  cf := some (fileOf pool10 12 #[.nestMembers #[627, 629, 369]] #[{ accessFlags := 0, nameIndex := 9, descriptorIndex := 10, attributes := #[] }, { accessFlags := 8, nameIndex := 261, descriptorIndex := 262, attributes := #[] }, { accessFlags := 9, nameIndex := 117, descriptorIndex := 122, attributes := #[] }, { accessFlags := 9, nameIndex := 117, descriptorIndex := 118, attributes := #[] }] 48 6 #[] #[{ accessFlags := 26, nameIndex := 61, descriptorIndex := 62, attributes := #[] }, { accessFlags := 26, nameIndex := 65, descriptorIndex := 62, attributes := #[] }, { accessFlags := 24, nameIndex := 430, descriptorIndex := 62, attributes := #[] }, { accessFlags := 4120, nameIndex := 46, descriptorIndex := 47, attributes := #[] }])
  fields := #[{ name := "HI_BYTE_SHIFT", type := .int, accessFlags := 26, slot := 0, constantValue := 0 }, { name := "LO_BYTE_SHIFT", type := .int, accessFlags := 26, slot := 1, constantValue := 0 }, { name := "MAX_LENGTH", type := .int, accessFlags := 24, slot := 2, constantValue := 0 }, { name := "$assertionsDisabled", type := .boolean, accessFlags := 4120, slot := 3, constantValue := 0 }]
  methods := #[k10m0, k10m1, k10m2, k10m3]
  instanceTypes := #[]
  staticTypes := #[.int, .int, .int, .boolean]
  resolved := Array.replicate 635 none
  statics := none }

def pool11 : Array CpInfo := pool [(4, .class_ 6), (1, u "java/lang/Object"), (0, u "<init>"), (0, u "()V"), (5, .class_ 16), (1, u "java/lang/StringLatin1"), (104, u "$assertionsDisabled"), (0, u "Z"), (98, .class_ 223), (1, u "java/lang/StringLatin1$LinesSpliterator"), (166, .class_ 391), (0, u "java/lang/StringLatin1$CharsSpliterator")] 3

def k11m0 : Method := { name := "<init>", desc := "()V", sig := { parameters := [], returnType := none }, accessFlags := 0, code := none }
/-- java/lang/StringLatin1 -/
def k11 : Class := { plain "java/lang/StringLatin1" (some 0) with
  accessFlags := 48
  interfaces := #[]
  cf := some (fileOf pool11 14 #[.nestMembers #[390, 221]] #[{ accessFlags := 0, nameIndex := 7, descriptorIndex := 8, attributes := #[] }] 48 4 #[] #[{ accessFlags := 4120, nameIndex := 121, descriptorIndex := 122, attributes := #[] }])
  fields := #[{ name := "$assertionsDisabled", type := .boolean, accessFlags := 4120, slot := 0, constantValue := 0 }]
  methods := #[k11m0]
  instanceTypes := #[]
  staticTypes := #[.boolean]
  resolved := Array.replicate 395 none
  statics := none }

def pool12 : Array CpInfo := pool [(2, .class_ 4), (1, u "java/lang/Object"), (0, u "<init>"), (0, u "()V"), (17, .class_ 26), (1, u "jdk/internal/util/Preconditions"), (28, .class_ 56), (0, u "jdk/internal/util/Preconditions$4"), (57, .class_ 115), (0, u "jdk/internal/util/Preconditions$1"), (7, u "SIOOBE_FORMATTER"), (0, u "Ljava/util/function/BiFunction;"), (0, .class_ 126), (0, u "jdk/internal/util/Preconditions$2"), (3, u "AIOOBE_FORMATTER"), (0, .class_ 132), (0, u "jdk/internal/util/Preconditions$3"), (3, u "IOOBE_FORMATTER")] 57

def k12m0 : Method := { name := "<init>", desc := "()V", sig := { parameters := [], returnType := none }, accessFlags := 1, code := none }
/-- jdk/internal/util/Preconditions -/
def k12 : Class := { plain "jdk/internal/util/Preconditions" (some 0) with
  accessFlags := 33
  interfaces := #[]
  cf := some (fileOf pool12 24 #[.nestMembers #[55, 131, 125, 114]] #[{ accessFlags := 1, nameIndex := 5, descriptorIndex := 6, attributes := #[] }] 33 2 #[] #[{ accessFlags := 25, nameIndex := 123, descriptorIndex := 124, attributes := #[] }, { accessFlags := 25, nameIndex := 130, descriptorIndex := 124, attributes := #[] }, { accessFlags := 25, nameIndex := 136, descriptorIndex := 124, attributes := #[] }])
  fields := #[{ name := "SIOOBE_FORMATTER", type := (.object "java/util/function/BiFunction"), accessFlags := 25, slot := 0, constantValue := 0 }, { name := "AIOOBE_FORMATTER", type := (.object "java/util/function/BiFunction"), accessFlags := 25, slot := 1, constantValue := 0 }, { name := "IOOBE_FORMATTER", type := (.object "java/util/function/BiFunction"), accessFlags := 25, slot := 2, constantValue := 0 }]
  methods := #[k12m0]
  instanceTypes := #[]
  staticTypes := #[(.object "java/util/function/BiFunction"), (.object "java/util/function/BiFunction"), (.object "java/util/function/BiFunction")]
  resolved := Array.replicate 194 none
  statics := some 2 }

def pool13 : Array CpInfo := pool [(9, u "<init>"), (6, .class_ 18), (1, u "java/lang/Object"), (0, u "()V"), (1, .class_ 23), (1, u "jdk/internal/util/ArraysSupport"), (0, u "LOG2_ARRAY_LONG_INDEX_SCALE"), (0, u "I"), (2, u "U"), (0, u "Ljdk/internal/misc/Unsafe;"), (8, u "BIG_ENDIAN"), (0, u "Z"), (8, u "LOG2_BYTE_BIT_SIZE"), (4, u "LOG2_ARRAY_INT_INDEX_SCALE"), (54, u "JLA"), (0, u "Ljdk/internal/access/JavaLangAccess;"), (11, u "LOG2_ARRAY_BOOLEAN_INDEX_SCALE"), (9, u "LOG2_ARRAY_BYTE_INDEX_SCALE"), (5, u "LOG2_ARRAY_CHAR_INDEX_SCALE"), (5, u "LOG2_ARRAY_SHORT_INDEX_SCALE"), (18, u "LOG2_ARRAY_FLOAT_INDEX_SCALE"), (24, u "LOG2_ARRAY_DOUBLE_INDEX_SCALE"), (89, u "T_BOOLEAN"), (2, u "T_CHAR"), (1, u "T_FLOAT"), (1, u "T_DOUBLE"), (1, u "T_BYTE"), (1, u "T_SHORT"), (1, u "T_INT"), (1, u "T_LONG"), (1, u "SOFT_MAX_ARRAY_LENGTH")] 83

def k13m0 : Method := { name := "<init>", desc := "()V", sig := { parameters := [], returnType := none }, accessFlags := 2, code := none }
/-- jdk/internal/util/ArraysSupport -/
def k13 : Class := { plain "jdk/internal/util/ArraysSupport" (some 0) with
  accessFlags := 33
  interfaces := #[]
  cf := some (fileOf pool13 21 #[] #[{ accessFlags := 2, nameIndex := 9, descriptorIndex := 19, attributes := #[] }] 33 16 #[] #[{ accessFlags := 24, nameIndex := 28, descriptorIndex := 29, attributes := #[] }, { accessFlags := 26, nameIndex := 38, descriptorIndex := 39, attributes := #[] }, { accessFlags := 25, nameIndex := 121, descriptorIndex := 25, attributes := #[] }, { accessFlags := 25, nameIndex := 131, descriptorIndex := 25, attributes := #[] }, { accessFlags := 25, nameIndex := 137, descriptorIndex := 25, attributes := #[] }, { accessFlags := 25, nameIndex := 143, descriptorIndex := 25, attributes := #[] }, { accessFlags := 25, nameIndex := 53, descriptorIndex := 25, attributes := #[] }, { accessFlags := 25, nameIndex := 24, descriptorIndex := 25, attributes := #[] }, { accessFlags := 25, nameIndex := 162, descriptorIndex := 25, attributes := #[] }, { accessFlags := 25, nameIndex := 187, descriptorIndex := 25, attributes := #[] }, { accessFlags := 26, nameIndex := 48, descriptorIndex := 25, attributes := #[] }, { accessFlags := 25, nameIndex := 277, descriptorIndex := 25, attributes := #[] }, { accessFlags := 25, nameIndex := 280, descriptorIndex := 25, attributes := #[] }, { accessFlags := 25, nameIndex := 282, descriptorIndex := 25, attributes := #[] }, { accessFlags := 25, nameIndex := 284, descriptorIndex := 25, attributes := #[] }, { accessFlags := 25, nameIndex := 286, descriptorIndex := 25, attributes := #[] }, { accessFlags := 25, nameIndex := 288, descriptorIndex := 25, attributes := #[] }, { accessFlags := 25, nameIndex := 290, descriptorIndex := 25, attributes := #[] }, { accessFlags := 25, nameIndex := 292, descriptorIndex := 25, attributes := #[] }, { accessFlags := 26, nameIndex := 108, descriptorIndex := 109, attributes := #[] }, { accessFlags := 25, nameIndex := 294, descriptorIndex := 25, attributes := #[] }])
  fields := #[{ name := "U", type := (.object "jdk/internal/misc/Unsafe"), accessFlags := 24, slot := 0, constantValue := 0 }, { name := "BIG_ENDIAN", type := .boolean, accessFlags := 26, slot := 1, constantValue := 0 }, { name := "LOG2_ARRAY_BOOLEAN_INDEX_SCALE", type := .int, accessFlags := 25, slot := 2, constantValue := 0 }, { name := "LOG2_ARRAY_BYTE_INDEX_SCALE", type := .int, accessFlags := 25, slot := 3, constantValue := 0 }, { name := "LOG2_ARRAY_CHAR_INDEX_SCALE", type := .int, accessFlags := 25, slot := 4, constantValue := 0 }, { name := "LOG2_ARRAY_SHORT_INDEX_SCALE", type := .int, accessFlags := 25, slot := 5, constantValue := 0 }, { name := "LOG2_ARRAY_INT_INDEX_SCALE", type := .int, accessFlags := 25, slot := 6, constantValue := 0 }, { name := "LOG2_ARRAY_LONG_INDEX_SCALE", type := .int, accessFlags := 25, slot := 7, constantValue := 0 }, { name := "LOG2_ARRAY_FLOAT_INDEX_SCALE", type := .int, accessFlags := 25, slot := 8, constantValue := 0 }, { name := "LOG2_ARRAY_DOUBLE_INDEX_SCALE", type := .int, accessFlags := 25, slot := 9, constantValue := 0 }, { name := "LOG2_BYTE_BIT_SIZE", type := .int, accessFlags := 26, slot := 10, constantValue := 0 }, { name := "T_BOOLEAN", type := .int, accessFlags := 25, slot := 11, constantValue := 0 }, { name := "T_CHAR", type := .int, accessFlags := 25, slot := 12, constantValue := 0 }, { name := "T_FLOAT", type := .int, accessFlags := 25, slot := 13, constantValue := 0 }, { name := "T_DOUBLE", type := .int, accessFlags := 25, slot := 14, constantValue := 0 }, { name := "T_BYTE", type := .int, accessFlags := 25, slot := 15, constantValue := 0 }, { name := "T_SHORT", type := .int, accessFlags := 25, slot := 16, constantValue := 0 }, { name := "T_INT", type := .int, accessFlags := 25, slot := 17, constantValue := 0 }, { name := "T_LONG", type := .int, accessFlags := 25, slot := 18, constantValue := 0 }, { name := "JLA", type := (.object "jdk/internal/access/JavaLangAccess"), accessFlags := 26, slot := 19, constantValue := 0 }, { name := "SOFT_MAX_ARRAY_LENGTH", type := .int, accessFlags := 25, slot := 20, constantValue := 0 }]
  methods := #[k13m0]
  instanceTypes := #[]
  staticTypes := #[(.object "jdk/internal/misc/Unsafe"), .boolean, .int, .int, .int, .int, .int, .int, .int, .int, .int, .int, .int, .int, .int, .int, .int, .int, .int, (.object "jdk/internal/access/JavaLangAccess"), .int]
  resolved := Array.replicate 378 none
  statics := none }

def pool14 : Array CpInfo := pool [(1, u "java/lang/Cloneable"), (0, .class_ 1), (0, u "java/lang/Object"), (0, .class_ 3)] 3

/-- java/lang/Cloneable -/
def k14 : Class := { plain "java/lang/Cloneable" (some 0) with
  accessFlags := 1537
  interfaces := #[]
  cf := some (fileOf pool14 2 #[] #[] 1537 4 #[] #[])
  fields := #[]
  methods := #[]
  instanceTypes := #[]
  staticTypes := #[]
  resolved := Array.replicate 8 none
  statics := none }

/-- the primitive byte -/
def k15 : Class := { plain "byte" none with kind := .primitive 'B', accessFlags := 0x411 }
/-- [B -/
def k16 : Class := { plain "[B" (some 0) with kind := .array 15 .byte, interfaces := #[14, 4], accessFlags := 1041 }

/-- the primitive char -/
def k17 : Class := { plain "char" none with kind := .primitive 'C', accessFlags := 0x411 }
/-- [C -/
def k18 : Class := { plain "[C" (some 0) with kind := .array 17 .char, interfaces := #[14, 4], accessFlags := 1041 }

/-- the primitive int -/
def k19 : Class := { plain "int" none with kind := .primitive 'I', accessFlags := 0x411 }
/-- [I -/
def k20 : Class := { plain "[I" (some 0) with kind := .array 19 .int, interfaces := #[14, 4], accessFlags := 1041 }

def heap : Heap := #[{ cls := 6, slots := #[.ref 3, .ref 4, .ref 5, .ref 6, .ref 7, .ref 8, .null], vm := .statics 6 },
  { cls := 9, slots := #[.long 0, .int 1, .null, .int 0, .null, .int 0, .int 0], vm := .statics 9 },
  { cls := 12, slots := #[.null, .null, .null], vm := .statics 12 },
  { cls := 6, slots := #[.null, .int 0, .int 0, .int 1, .int 256, .null], vm := .none },
  { cls := 6, slots := #[.null, .int 1, .int 0, .int 1, .int 1024, .null], vm := .none },
  { cls := 6, slots := #[.null, .int 2, .int 0, .int 0, .int 1048576, .null], vm := .none },
  { cls := 6, slots := #[.null, .int 3, .int 0, .int 1, .int 1000, .null], vm := .none },
  { cls := 6, slots := #[.null, .int 4, .int 0, .int 0, .int 1000, .null], vm := .none },
  { cls := 6, slots := #[.null, .int 5, .int 0, .int 1, .int 1000, .null], vm := .none }]
def classes : Array Class := #[k0, k1, k2, k3, k4, k5, k6, k7, k8, k9, k10, k11, k12, k13, k14, k15, k16, k17, k18, k19, k20]
def interned : List (Array UInt16 × Addr) := []
def slotsUsed : Nat := 53
def theMethod : MethodId := ⟨1, 1⟩
def args0 : Array Value := #[.int 3, .long 5, .int 65]
def aboutOver (below : List Frame) : State where
  vm := { classes := classes, interned := interned.toArray }
  heap := heap
  slotsUsed := slotsUsed
  threads := #[{ frames := .invoking theMethod args0 :: below }]
def below0 : List Frame := [.native { method := ⟨0, 0⟩, args := #[] }]
def about1 : State := aboutOver below0
def p0 : Program := .bare "" "" ""
def e0 : Env := launch0.env 0 0 0
theorem w_frames : about1.frames = Frame.invoking theMethod args0 :: below0 := rfl
set_option maxRecDepth 65536 in
theorem w_args : argsFit about1.vm theMethod args0 = true := by decide +kernel
set_option maxRecDepth 65536 in
theorem w_heap : heapFits about1 = true := by decide +kernel
set_option maxRecDepth 65536 in
theorem w_runnable : about1.curStatus? = some .runnable := by decide +kernel
set_option maxRecDepth 65536 in
theorem w_alone : about1.alone = true := by decide +kernel
set_option maxRecDepth 65536 in
theorem w_named : about1.methodNamed? x = some theMethod := by decide +kernel
set_option maxRecDepth 65536 in
theorem w_hears : about1.hears theMethod below0 = true := by decide +kernel
set_option maxRecDepth 65536 in
theorem w_ripe : about1.ripe theMethod args0 below0 = true := by decide +kernel
theorem w_running : about1.status = .running := rfl
set_option maxRecDepth 65536 in
theorem w_room : about1.hasRoom e0.platform room_1 = true :=
  launch0.hasRoom_least _ room_1 (by decide +kernel) (by decide +kernel) (by decide +kernel) (by decide +kernel) (by decide +kernel) (by decide +kernel)
theorem allAtoms_all (ts : List Jvm.Cond) (a : Array Jvm.Value) (st : Jvm.State) : (allAtoms ts).before a st = ts.all (fun c => c.before a st) := by
  induction ts with
  | nil => rfl
  | cons c t ih =>
    show (Jvm.Cond.and c (allAtoms t)).before a st = _
    rw [Jvm.Cond.before_and, ih, List.all_cons]
def words1 : List Jvm.Cond := Jvm.Cond.code x code maxLocals ret :: tables_1
/-- a 'code' word, met by the world's own term for the bytes: nothing is compared byte by byte -/
theorem code_word {y : MethodName} {bytes : ByteArray} {mx : Nat} {rt : Option FieldType} {a : Array Value} {s : State} {m : MethodId} {meth : Method} {c : Code} (h1 : s.methodNamed? y = some m) (h2 : s.vm.method? m = some meth) (h3 : meth.code = some c) (h4 : c.code = bytes)
    (h5 : (c.maxLocals == mx && c.exceptionTable.isEmpty && decide (c.maxStack ≤ mostOperands) && decide (meth.sig.returnType = rt) && !meth.locks && decide (parseMethodDescriptor y.desc = some meth.sig)) = true) : (Jvm.Cond.code y bytes mx rt).before a s = true := by
  simp only [Bool.and_eq_true, beq_iff_eq, Bool.not_eq_true', decide_eq_true_eq] at h5
  obtain ⟨⟨⟨⟨⟨g1, g2⟩, g3⟩, g4⟩, g5⟩, g6⟩ := h5
  simp [Cond.before, Cond.holds, Cond.value, h1, h2, h3, h4, g1, g2, g3, g4, g5, g6]
def isCode : Jvm.Cond → Bool
  | .code _ _ _ _ => true
  | _ => false
theorem all_split {L : List Jvm.Cond} {P : Jvm.Cond → Bool} (h1 : L.all (fun c => isCode c || P c) = true) (h2 : ∀ c ∈ L.filter isCode, P c = true) : L.all P = true := by
  refine List.all_eq_true.mpr fun c hc => ?_
  have h := List.all_eq_true.mp h1 c hc
  rcases Bool.eq_false_or_eq_true (isCode c) with hi | hi
  · exact h2 c (List.mem_filter.mpr ⟨hc, hi⟩)
  · simpa [hi] using h
set_option maxRecDepth 65536 in
theorem w_c0 : (Jvm.Cond.code x code maxLocals ret).before args0 about1 = true := code_word (m := ⟨1, 1⟩) (meth := k1m1) (c := k1c1) (by decide +kernel) rfl rfl rfl (by decide +kernel)
set_option maxRecDepth 65536 in
theorem w_c1 : (Jvm.Cond.code ({ cls := "java/lang/String", name := "<init>", desc := "([C)V" } : Jvm.MethodName) jdk_42_method_3_code (2 : Nat) (Option.none : Option Jvm.ClassFile.FieldType)).before args0 about1 = true := code_word (m := ⟨9, 1⟩) (meth := k9m1) (c := k9c1) (by decide +kernel) rfl rfl rfl (by decide +kernel)
set_option maxRecDepth 65536 in
theorem w_c2 : (Jvm.Cond.code ({ cls := "java/lang/String", name := "<init>", desc := "([CIILjava/lang/Void;)V" } : Jvm.MethodName) jdk_42_method_149_code (6 : Nat) (Option.none : Option Jvm.ClassFile.FieldType)).before args0 about1 = true := code_word (m := ⟨9, 2⟩) (meth := k9m2) (c := k9c2) (by decide +kernel) rfl rfl rfl (by decide +kernel)
set_option maxRecDepth 65536 in
theorem w_c3 : (Jvm.Cond.code ({ cls := "java/lang/Object", name := "<init>", desc := "()V" } : Jvm.MethodName) object_method_1_code (1 : Nat) (Option.none : Option Jvm.ClassFile.FieldType)).before args0 about1 = true := code_word (m := ⟨0, 0⟩) (meth := k0m0) (c := k0c0) (by decide +kernel) rfl rfl rfl (by decide +kernel)
set_option maxRecDepth 65536 in
theorem w_c4 : (Jvm.Cond.code ({ cls := "java/lang/StringUTF16", name := "compress", desc := "([CII)[B" } : Jvm.MethodName) jdk_52_method_16_code (6 : Nat) (Option.some (Jvm.ClassFile.FieldType.array Jvm.ClassFile.FieldType.byte))).before args0 about1 = true := code_word (m := ⟨10, 2⟩) (meth := k10m2) (c := k10c2) (by decide +kernel) rfl rfl rfl (by decide +kernel)
set_option maxRecDepth 65536 in
theorem w_c5 : (Jvm.Cond.code ({ cls := "java/lang/StringUTF16", name := "compress", desc := "([CI[BII)I" } : Jvm.MethodName) jdk_52_method_21_code (7 : Nat) (Option.some Jvm.ClassFile.FieldType.int)).before args0 about1 = true := code_word (m := ⟨10, 3⟩) (meth := k10m3) (c := k10c3) (by decide +kernel) rfl rfl rfl (by decide +kernel)
set_option maxRecDepth 65536 in
theorem w_c6 : (Jvm.Cond.code ({ cls := "java/lang/StringUTF16", name := "coderFromArrayLen", desc := "([BI)B" } : Jvm.MethodName) jdk_52_method_15_code (2 : Nat) (Option.some Jvm.ClassFile.FieldType.byte)).before args0 about1 = true := code_word (m := ⟨10, 1⟩) (meth := k10m1) (c := k10c1) (by decide +kernel) rfl rfl rfl (by decide +kernel)
set_option maxRecDepth 65536 in
theorem w_c7 : (Jvm.Cond.code ({ cls := "com/example/kept_inbox/keptinbox/Limit", name := "check", desc := "(Ljava/lang/String;J)V" } : Jvm.MethodName) prog_3_method_7_code (4 : Nat) (Option.none : Option Jvm.ClassFile.FieldType)).before args0 about1 = true := code_word (m := ⟨6, 2⟩) (meth := k6m2) (c := k6c2) (by decide +kernel) rfl rfl rfl (by decide +kernel)
set_option maxRecDepth 65536 in
theorem w_c8 : (Jvm.Cond.code ({ cls := "com/example/kept_inbox/keptinbox/Limit", name := "min", desc := "()I" } : Jvm.MethodName) prog_3_method_5_code (1 : Nat) (Option.some Jvm.ClassFile.FieldType.int)).before args0 about1 = true := code_word (m := ⟨6, 0⟩) (meth := k6m0) (c := k6c0) (by decide +kernel) rfl rfl rfl (by decide +kernel)
set_option maxRecDepth 65536 in
theorem w_c9 : (Jvm.Cond.code ({ cls := "com/example/kept_inbox/keptinbox/Limit", name := "max", desc := "()I" } : Jvm.MethodName) prog_3_method_6_code (1 : Nat) (Option.some Jvm.ClassFile.FieldType.int)).before args0 about1 = true := code_word (m := ⟨6, 1⟩) (meth := k6m1) (c := k6c1) (by decide +kernel) rfl rfl rfl (by decide +kernel)
def codes1 : List Jvm.Cond := [Jvm.Cond.code x code maxLocals ret, Jvm.Cond.code ({ cls := "java/lang/String", name := "<init>", desc := "([C)V" } : Jvm.MethodName) jdk_42_method_3_code (2 : Nat) (Option.none : Option Jvm.ClassFile.FieldType), Jvm.Cond.code ({ cls := "java/lang/String", name := "<init>", desc := "([CIILjava/lang/Void;)V" } : Jvm.MethodName) jdk_42_method_149_code (6 : Nat) (Option.none : Option Jvm.ClassFile.FieldType), Jvm.Cond.code ({ cls := "java/lang/Object", name := "<init>", desc := "()V" } : Jvm.MethodName) object_method_1_code (1 : Nat) (Option.none : Option Jvm.ClassFile.FieldType), Jvm.Cond.code ({ cls := "java/lang/StringUTF16", name := "compress", desc := "([CII)[B" } : Jvm.MethodName) jdk_52_method_16_code (6 : Nat) (Option.some (Jvm.ClassFile.FieldType.array Jvm.ClassFile.FieldType.byte)), Jvm.Cond.code ({ cls := "java/lang/StringUTF16", name := "compress", desc := "([CI[BII)I" } : Jvm.MethodName) jdk_52_method_21_code (7 : Nat) (Option.some Jvm.ClassFile.FieldType.int), Jvm.Cond.code ({ cls := "java/lang/StringUTF16", name := "coderFromArrayLen", desc := "([BI)B" } : Jvm.MethodName) jdk_52_method_15_code (2 : Nat) (Option.some Jvm.ClassFile.FieldType.byte), Jvm.Cond.code ({ cls := "com/example/kept_inbox/keptinbox/Limit", name := "check", desc := "(Ljava/lang/String;J)V" } : Jvm.MethodName) prog_3_method_7_code (4 : Nat) (Option.none : Option Jvm.ClassFile.FieldType), Jvm.Cond.code ({ cls := "com/example/kept_inbox/keptinbox/Limit", name := "min", desc := "()I" } : Jvm.MethodName) prog_3_method_5_code (1 : Nat) (Option.some Jvm.ClassFile.FieldType.int), Jvm.Cond.code ({ cls := "com/example/kept_inbox/keptinbox/Limit", name := "max", desc := "()I" } : Jvm.MethodName) prog_3_method_6_code (1 : Nat) (Option.some Jvm.ClassFile.FieldType.int)]
set_option maxRecDepth 65536 in
theorem codes_eq : words1.filter isCode = codes1 := rfl
theorem w_codes : ∀ c ∈ words1.filter isCode, c.before args0 about1 = true := by
  rw [codes_eq]
  intro c hc
  simp only [codes1, List.mem_cons, List.not_mem_nil, or_false] at hc
  rcases hc with rfl | rfl | rfl | rfl | rfl | rfl | rfl | rfl | rfl | rfl
  · exact w_c0
  · exact w_c1
  · exact w_c2
  · exact w_c3
  · exact w_c4
  · exact w_c5
  · exact w_c6
  · exact w_c7
  · exact w_c8
  · exact w_c9
set_option maxRecDepth 65536 in
theorem w_t1 : (words1.take 24).all (fun c => isCode c || c.before args0 about1) = true := by decide +kernel
set_option maxRecDepth 65536 in
theorem w_t2 : ((words1.drop 24).take 24).all (fun c => isCode c || c.before args0 about1) = true := by decide +kernel
set_option maxRecDepth 65536 in
theorem w_t3 : ((words1.drop 24).drop 24).all (fun c => isCode c || c.before args0 about1) = true := by decide +kernel
theorem w_tables : (allAtoms (Jvm.Cond.code x code maxLocals ret :: tables_1)).before args0 about1 = true := by
  rw [allAtoms_all]
  show words1.all (fun c => c.before args0 about1) = true
  refine all_split ?_ w_codes
  rw [← List.take_append_drop 24 words1, List.all_append, w_t1, ← List.take_append_drop 24 (words1.drop 24), List.all_append, w_t2, w_t3]
  rfl
set_option maxRecDepth 65536 in
theorem w_rest : rest_1_c.before args0 about1 = true := by decide +kernel
set_option maxRecDepth 65536 in
theorem w_case : (Jvm.Cond.and given_1 narrow_1).before args0 about1 = true := by decide +kernel
theorem w_applies : (headSpec (Jvm.Cond.code x code maxLocals ret :: tables_1) room_1).applies x e0.platform about1 = true :=
  (Spec.applies_iff w_frames).mpr ⟨w_running, w_runnable, w_alone, w_named, w_hears, w_ripe, w_room, w_tables⟩
theorem atStart : AtStart classFile x code maxLocals ret World_1 tables_1 room_1 Calls_1 rest_1 Pre_1 launch0 p0 e0 about1 theMethod args0 below0 :=
  ⟨lists_1, trivial, launch0.admits_env _ _ _, launch0.least_env, fairChoices_fair.cas, fairChoices_fair.clock, w_frames, w_args, w_heap, w_applies, trivial, w_rest, w_case⟩
end start1
theorem witness_1 : WitnessClaimed_1 := ⟨start1.p0, start1.e0, start1.about1, start1.theMethod, start1.args0, start1.below0, start1.atStart⟩
end Jvm.Pilot.@@N@@
