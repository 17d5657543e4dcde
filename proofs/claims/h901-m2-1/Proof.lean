import JvmDerived
import JvmDerived.Pilot.@@N@@Statement
import JvmDerived.Pilot.@@N@@Code
set_option linter.unusedVariables false
set_option linter.unusedSimpArgs false
namespace Jvm.RoadKit
open Sem ClassFile Op Lib Jvm.Stand Jvm.Free Jvm.LawKit
section New
variable {p : Program} {l : Launch} {e : Env} {R : Room} {s : State} {m : MethodId} {args : Array Value} {below : List Frame} {meth : Method} {c : Code} {T : State} {locs : List Loc} {cells slots : Nat}
theorem retI (X : Stand p l e R s m args below meth c T locs cells slots) (hx : p.tables.exec = Jvm.exec) {pc : Nat} {Ls : Array Slot} {z : Int32} {rest : List Value} (hret : meth.sig.returnType = some .int) (hd : decode c.code pc = .ok (.ireturn, 1)) {fs : List Frame}
    (hl : ∀ (f : JFrame) (acts : List Action), f.method = m → f.locked = none → f.entered = [] → (doReturn e (T.setTop f) acts (some (.int z))).1 = T.setFrames fs) : Steps p.tables e below (T.setTop (mkF m pc Ls (.int z :: rest))) (T.setFrames fs) := by
  have hm' : T.vm.method? m = some meth := X.method'
  have hn : narrow .int (.int z) = .int z := rfl
  show Steps p.tables e below (T.setTop { method := m, pc := pc, locals := Ls, stack := _ :: rest, locked := none }) _
  jvm_step X.here [X.here.top, hx, hd, hm', hret, hn]
  first | (intro acts; rw [hl _ acts rfl rfl rfl]) | rw [hl _ _ rfl rfl rfl]
  exact Steps.refl _
end New
end Jvm.RoadKit
/- laws to paste: Road.backV, Road.lenW, Road.chN, Road.empW, Road.codOf (cut by pick.py; bodies as the Statement names them) -/
namespace Jvm.Pilot.@@N@@
namespace StrChars
open Jvm Sem ClassFile Op Lib Jvm.Stand Jvm.Free.XT Jvm.Free.ALB Jvm.Free.JM Jvm.Free
open Jvm.Lib.Cold (StaticIs)
/-- a char array whose places are chars -/
def Ch (a : Addr) (A : Cell) (U : State) : Prop := Arr .char a A U ∧ Typed .char A
theorem Ch.mv {a : Addr} {A : Cell} {U U' : State} (h : Ch a A U) (hal : U.vm.Alike U'.vm) (hh : U'.heap = U.heap) : Ch a A U' := ⟨h.1.mv hal hh, h.2⟩
theorem Ch.keep {a : Addr} {A : Cell} {U U' : State} (h : Ch a A U) (hal : U.vm.Alike U'.vm) (hk : U'.heap[a]? = some A) : Ch a A U' := ⟨h.1.keep hal hk, h.2⟩
/-- what place i of a char[]'s cell holds -/
def cv (A : Cell) (i : Nat) : Int32 := match A.slots[i]? with | some (.int x) => x | _ => 0
theorem Ch.get {a : Addr} {A : Cell} {U : State} (h : Ch a A U) {i : Nat} (hi : i < A.slots.size) : A.slots[i]? = some (.int (cv A i)) := by
  have e := Array.getElem?_eq_getElem hi
  have f := h.2 i _ e
  unfold cv; rw [e]
  generalize A.slots[i] = v at f
  cases v <;> simp [fits] at f ⊢
/-- the byte that i2b leaves of a char -/
def lo8 (x : Int32) : Int32 := x.toInt8.toInt32
theorem fits_lo8 (y : Int32) : fits .byte (.int (lo8 y)) = true := by
  have h1 := y.toInt8.le_toInt
  have h2 := y.toInt8.toInt_lt
  simp only [lo8, fits, Bool.and_eq_true, decide_eq_true_eq, Int32.le_iff_toInt_le, Int8.toInt_toInt32, show (-128 : Int32).toInt = -128 from by decide, show (127 : Int32).toInt = 127 from by decide]
  omega
/-- A' is A but that each place j of lo .. hi - 1 holds f j -/
def Laid (A A' : Cell) (lo hi : Nat) (f : Nat → Value) : Prop := A'.cls = A.cls ∧ A'.vm = A.vm ∧ A'.slots.size = A.slots.size ∧ ∀ i, A'.slots[i]? = if lo ≤ i ∧ i < hi then some (f i) else A.slots[i]?
theorem Laid.zero (A : Cell) (lo : Nat) (f : Nat → Value) : Laid A A lo (lo + 0) f := ⟨rfl, rfl, rfl, fun i => by rw [if_neg (by omega)]⟩
theorem Laid.step {A Ak : Cell} {lo k : Nat} {f : Nat → Value} {v : Value} (h : Laid A Ak lo k f) (hlo : lo ≤ k) (hk : k < Ak.slots.size) (hv : v = f k) : Laid A (Ak.setSlot k v) lo (k + 1) f := by
  refine ⟨h.1, h.2.1, by simpa [Cell.setSlot] using h.2.2.1, fun i => ?_⟩
  by_cases e : k = i
  · subst e; rw [Cell.slots_setSlot_self v hk, if_pos (by omega), hv]
  · rw [Cell.slots_setSlot_ne v e, h.2.2.2 i]
    by_cases q : lo ≤ i ∧ i < k
    · rw [if_pos q, if_pos (by omega)]
    · rw [if_neg q, if_neg (by omega)]
def U16 : String := "java/lang/StringUTF16"
namespace Cmp5
def yN : MethodName := ⟨"java/lang/StringUTF16", "compress", "([CI[BII)I"⟩
abbrev yB : ByteArray := jdk_52_method_21_code
theorem d0 : decode yB 0 = .ok (.iconst 0, 1) := by decide +kernel
theorem d1 : decode yB 1 = .ok (.istore 5, 2) := by decide +kernel
theorem d3 : decode yB 3 = .ok (.iload 5, 2) := by decide +kernel
theorem d5 : decode yB 5 = .ok (.iload 4, 2) := by decide +kernel
theorem d7 : decode yB 7 = .ok (.if_icmp (.ge) 37, 3) := by decide +kernel
theorem d10 : decode yB 10 = .ok (.aload_n 0, 1) := by decide +kernel
theorem d11 : decode yB 11 = .ok (.iload_n 1, 1) := by decide +kernel
theorem d12 : decode yB 12 = .ok (.caload, 1) := by decide +kernel
theorem d13 : decode yB 13 = .ok (.istore 6, 2) := by decide +kernel
theorem d15 : decode yB 15 = .ok (.iload 6, 2) := by decide +kernel
theorem d17 : decode yB 17 = .ok (.sipush 255, 3) := by decide +kernel
theorem d20 : decode yB 20 = .ok (.if_icmp (.le) 6, 3) := by decide +kernel
theorem d26 : decode yB 26 = .ok (.aload_n 2, 1) := by decide +kernel
theorem d27 : decode yB 27 = .ok (.iload_n 3, 1) := by decide +kernel
theorem d28 : decode yB 28 = .ok (.iload 6, 2) := by decide +kernel
theorem d30 : decode yB 30 = .ok (.i2b, 1) := by decide +kernel
theorem d31 : decode yB 31 = .ok (.bastore, 1) := by decide +kernel
theorem d32 : decode yB 32 = .ok (.iinc 1 1, 3) := by decide +kernel
theorem d35 : decode yB 35 = .ok (.iinc 3 1, 3) := by decide +kernel
theorem d38 : decode yB 38 = .ok (.iinc 5 1, 3) := by decide +kernel
theorem d41 : decode yB 41 = .ok (.goto (-38), 3) := by decide +kernel
theorem d44 : decode yB 44 = .ok (.iload 4, 2) := by decide +kernel
theorem d46 : decode yB 46 = .ok (.ireturn, 1) := by decide +kernel
def site : List Cond := []
def tab : Cond := tabOf yN yB 7 (some .int) site
def P (b : Addr) (A : Cell) (d : Addr) (B : Cell) (o q len : Nat) (args : Array Value) (s : State) : Prop := args = #[.ref b, .int (Int32.ofNat o), .ref d, .int (Int32.ofNat q), .int (Int32.ofNat len)] ∧ Ch b A s ∧ Arr .byte d B s ∧ b ≠ d ∧ o + len ≤ A.slots.size ∧ q + len ≤ B.slots.size ∧ ∀ i, i < len → ¬ 255 < cv A (o + i)
def E (b : Addr) (A : Cell) (d : Addr) (B : Cell) (o q len : Nat) (r : Option Value) (s u : State) : Prop := r = some (.int (Int32.ofNat len)) ∧ ∃ B', Put d B' s u ∧ Laid B B' q (q + len) (fun j => Value.int (lo8 (cv A (o + (j - q)))))
/-- no char of the range above 255: len; the places written hold each char's low byte -/
theorem law (l : Launch) (b : Addr) (A : Cell) (d : Addr) (B : Cell) (o q len : Nat) : Law l yN 5 5 0 0 yB 7 (some .int) site (P b A d B o q len) (E b A d B o q len) (copyLocs d q len) 0 0 := by
  refine Law.of_walk (plainFor_of_name (by decide +kernel)) (by decide +kernel) (by decide +kernel) (by decide) (fun _ _ h => by rw [h.1]; rfl) (fun _ U U' hal hh h => ⟨h.1, h.2.1.mv hal hh, h.2.2.1.mv hal hh, h.2.2.2⟩) (fun r U U' V V' h1 hal h2 h => ⟨h.1, h.2.elim fun B' q => ⟨B', q.1.mv h1 h2, q.2⟩⟩) ?_
  intro p e s m args below meth c s₁ X0 hexec hbytes hml hret hlk hnm hown hh0 W hP
  obtain ⟨rfl, hA, hB, hne, l1, l2, hp⟩ := hP
  have c1 : Steps p.tables e below (s₁.setTop (entryFrame m #[.ref b, .int (Int32.ofNat o), .ref d, .int (Int32.ofNat q), .int (Int32.ofNat len)] 7)) (s₁.setTop (mkF m 0 #[.val (.ref b), .val (.int (Int32.ofNat o)), .val (.ref d), .val (.int (Int32.ofNat q)), .val (.int (Int32.ofNat len)), .unset, .unset] [])) := entry rfl
  have hA0 := hA.1.mv X0.warmed.alike hh0
  have hB0 := hB.mv X0.warmed.alike hh0
  have a31 := hA.1.2.2.2
  have c2 : Steps p.tables e below (s₁.setTop (entryFrame m #[.ref b, .int (Int32.ofNat o), .ref d, .int (Int32.ofNat q), .int (Int32.ofNat len)] 7)) (s₁.setTop (mkF m 3 #[.val (.ref b), .val (.int (Int32.ofNat o)), .val (.ref d), .val (.int (Int32.ofNat q)), .val (.int (Int32.ofNat len)), .val (.int 0), .unset] [])) := c1.trans (by
    refine iconstV X0.here hexec rfl 0 (hb hbytes d0) (by decide) ?_
    refine XS.istore X0.here hexec rfl (hb hbytes d1) rfl rfl ?_
    exact Steps.refl _)
  have loop : ∀ (r i : Nat), i + r = len → ∀ (z : Slot), (z = .unset ∨ ∃ w, z = .val w ∧ w.category = 1) → ∀ (Tl : State) (Bk : Cell), Stand p l e { frames := 0, locals := 0, cells := 0, slots := 0 } s m #[.ref b, .int (Int32.ofNat o), .ref d, .int (Int32.ofNat q), .int (Int32.ofNat len)] below meth c Tl ([] ++ copyLocs d q i) 0 0 → Put d Bk s₁ Tl → Laid B Bk q (q + i) (fun j => Value.int (lo8 (cv A (o + (j - q))))) →
      Steps p.tables e below (s₁.setTop (entryFrame m #[.ref b, .int (Int32.ofNat o), .ref d, .int (Int32.ofNat q), .int (Int32.ofNat len)] 7)) (Tl.setTop (mkF m 3 #[.val (.ref b), .val (.int (Int32.ofNat (o + i))), .val (.ref d), .val (.int (Int32.ofNat (q + i))), .val (.int (Int32.ofNat len)), .val (.int (Int32.ofNat i)), z] [])) → ∃ (T' : State) (B' : Cell) (z' : Slot), Stand p l e { frames := 0, locals := 0, cells := 0, slots := 0 } s m #[.ref b, .int (Int32.ofNat o), .ref d, .int (Int32.ofNat q), .int (Int32.ofNat len)] below meth c T' ([] ++ copyLocs d q len) 0 0 ∧ Put d B' s₁ T' ∧ Laid B B' q (q + len) (fun j => Value.int (lo8 (cv A (o + (j - q))))) ∧
      Steps p.tables e below (s₁.setTop (entryFrame m #[.ref b, .int (Int32.ofNat o), .ref d, .int (Int32.ofNat q), .int (Int32.ofNat len)] 7)) (T'.setTop (mkF m 3 #[.val (.ref b), .val (.int (Int32.ofNat (o + len))), .val (.ref d), .val (.int (Int32.ofNat (q + len))), .val (.int (Int32.ofNat len)), .val (.int (Int32.ofNat len)), z'] [])) := by
    intro r
    induction r with
    | zero =>
      intro i hi z hz Tl Bk Xl pl fl cl
      have hil : i = len := by omega
      rw [hil] at Xl fl cl
      exact ⟨Tl, Bk, z, Xl, pl, fl, cl⟩
    | succ r ih =>
      intro i hi z hz Tl Bk Xl pl fl cl
      have all := X0.warmed.alike.symm.trans Xl.warmed.alike
      have hAl := hA0.keep all (pl.other hne hA0.1)
      have hBk := hB0.like all pl.1 fl.1 fl.2.1 fl.2.2.1
      have hlt : q + i < Bk.slots.size := by rw [fl.2.2.1]; omega
      have c3 : Steps p.tables e below (s₁.setTop (entryFrame m #[.ref b, .int (Int32.ofNat o), .ref d, .int (Int32.ofNat q), .int (Int32.ofNat len)] 7)) (Tl.setTop (mkF m 12 #[.val (.ref b), .val (.int (Int32.ofNat (o + i))), .val (.ref d), .val (.int (Int32.ofNat (q + i))), .val (.int (Int32.ofNat len)), .val (.int (Int32.ofNat i)), z] [.int (Int32.ofNat (o + i)), .ref b])) := cl.trans (by
        refine XS.iload Xl.here hexec rfl (hb hbytes d3) rfl ?_
        refine XS.iload Xl.here hexec rfl (hb hbytes d5) rfl ?_
        refine XS.icmpNo Xl.here hexec rfl (hb hbytes d7) rfl (ii_ge_f (lt32 (by omega) (by omega))) ?_
        refine XS.aloadN Xl.here hexec rfl (hb hbytes d10) rfl rfl ?_
        refine XS.iloadN Xl.here hexec rfl (hb hbytes d11) rfl ?_
        exact Steps.refl _)
      have c4 : Steps p.tables e below (s₁.setTop (entryFrame m #[.ref b, .int (Int32.ofNat o), .ref d, .int (Int32.ofNat q), .int (Int32.ofNat len)] 7)) (Tl.setTop (mkF m 13 #[.val (.ref b), .val (.int (Int32.ofNat (o + i))), .val (.ref d), .val (.int (Int32.ofNat (q + i))), .val (.int (Int32.ofNat len)), .val (.int (Int32.ofNat i)), z] [.int (cv A (o + i))])) := c3.trans (by
        refine Xl.aget hexec hAl rfl (hA.get (i := o + i) (by omega)) rfl rfl (hb hbytes d12) ?_
        exact Steps.refl _)
      have c5 : Steps p.tables e below (s₁.setTop (entryFrame m #[.ref b, .int (Int32.ofNat o), .ref d, .int (Int32.ofNat q), .int (Int32.ofNat len)] 7)) (Tl.setTop (mkF m 15 #[.val (.ref b), .val (.int (Int32.ofNat (o + i))), .val (.ref d), .val (.int (Int32.ofNat (q + i))), .val (.int (Int32.ofNat len)), .val (.int (Int32.ofNat i)), .val (.int (cv A (o + i)))] [])) := c4.trans (by
        refine XS.istoreS Xl.here hexec rfl (hb hbytes d13) rfl rfl hz ?_
        exact Steps.refl _)
      have c6 : Steps p.tables e below (s₁.setTop (entryFrame m #[.ref b, .int (Int32.ofNat o), .ref d, .int (Int32.ofNat q), .int (Int32.ofNat len)] 7)) (Tl.setTop (mkF m 31 #[.val (.ref b), .val (.int (Int32.ofNat (o + i))), .val (.ref d), .val (.int (Int32.ofNat (q + i))), .val (.int (Int32.ofNat len)), .val (.int (Int32.ofNat i)), .val (.int (cv A (o + i)))] [.int (lo8 (cv A (o + i))), .int (Int32.ofNat (q + i)), .ref d])) := c5.trans (by
        refine XS.iload Xl.here hexec rfl (hb hbytes d15) rfl ?_
        refine sipushV Xl.here hexec rfl 255 (hb hbytes d17) (by decide) ?_
        refine XS.icmpYes Xl.here hexec rfl (pc0 := 20) rfl (hb hbytes d20) rfl (ii_le_t (hp i (by omega))) (by decide) rfl ?_
        refine XS.aloadN Xl.here hexec rfl (hb hbytes d26) rfl rfl ?_
        refine XS.iloadN Xl.here hexec rfl (hb hbytes d27) rfl ?_
        refine XS.iload Xl.here hexec rfl (hb hbytes d28) rfl ?_
        refine i2b Xl.here hexec rfl (hb hbytes d30) rfl ?_
        exact Steps.refl _)
      obtain ⟨T7, X7, p7, st7⟩ := Xl.aput hexec hBk rfl hlt rfl (fits_lo8 (cv A (o + i))) (g := (mkF m 31 #[.val (.ref b), .val (.int (Int32.ofNat (o + i))), .val (.ref d), .val (.int (Int32.ofNat (q + i))), .val (.int (Int32.ofNat len)), .val (.int (Int32.ofNat i)), .val (.int (cv A (o + i)))] [.int (lo8 (cv A (o + i))), .int (Int32.ofNat (q + i)), .ref d])) rfl (rest := []) rfl (hb hbytes d31)
      have c8 : Steps p.tables e below (s₁.setTop (entryFrame m #[.ref b, .int (Int32.ofNat o), .ref d, .int (Int32.ofNat q), .int (Int32.ofNat len)] 7)) (T7.setTop (mkF m 32 #[.val (.ref b), .val (.int (Int32.ofNat (o + i))), .val (.ref d), .val (.int (Int32.ofNat (q + i))), .val (.int (Int32.ofNat len)), .val (.int (Int32.ofNat i)), .val (.int (cv A (o + i)))] [])) := c6.trans (st7 _ (Steps.refl _))
      have c9 : Steps p.tables e below (s₁.setTop (entryFrame m #[.ref b, .int (Int32.ofNat o), .ref d, .int (Int32.ofNat q), .int (Int32.ofNat len)] 7)) (T7.setTop (mkF m 3 #[.val (.ref b), .val (.int (Int32.ofNat (o + i) + 1)), .val (.ref d), .val (.int (Int32.ofNat (q + i) + 1)), .val (.int (Int32.ofNat len)), .val (.int (Int32.ofNat i + 1)), .val (.int (cv A (o + i)))] [])) := c8.trans (by
        refine iincV X7.here hexec rfl 1 (hb hbytes d32) (by decide) rfl rfl ?_
        refine iincV X7.here hexec rfl 1 (hb hbytes d35) (by decide) rfl rfl ?_
        refine iincV X7.here hexec rfl 1 (hb hbytes d38) (by decide) rfl rfl ?_
        refine XS.goto X7.here hexec rfl (pc0 := 41) rfl (hb hbytes d41) (by decide) rfl ?_
        exact Steps.refl _)
      have c10 : Steps p.tables e below (s₁.setTop (entryFrame m #[.ref b, .int (Int32.ofNat o), .ref d, .int (Int32.ofNat q), .int (Int32.ofNat len)] 7)) (T7.setTop (mkF m 3 #[.val (.ref b), .val (.int (Int32.ofNat (o + (i + 1)))), .val (.ref d), .val (.int (Int32.ofNat (q + (i + 1)))), .val (.int (Int32.ofNat len)), .val (.int (Int32.ofNat (i + 1))), .val (.int (cv A (o + i)))] [])) := by
        have := c9
        rw [succ32, succ32, succ32] at this
        exact this
      exact ih (i + 1) (by omega) _ (Or.inr ⟨_, rfl, rfl⟩) T7 _ (by rw [copyLocs_step, ← List.append_assoc]; exact X7) (pl.trans p7) (fl.step (by omega) hlt (by simp)) c10
  obtain ⟨T9, B9, z9, X9, p9, f9, g9⟩ := loop len 0 (by omega) .unset (Or.inl rfl) s₁ B (by simpa [copyLocs] using X0) ⟨hB0.1, fun _ _ => rfl, rfl⟩ (Laid.zero _ _ _) c2
  have c11 : Steps p.tables e below (s₁.setTop (entryFrame m #[.ref b, .int (Int32.ofNat o), .ref d, .int (Int32.ofNat q), .int (Int32.ofNat len)] 7)) (T9.setTop (mkF m 46 #[.val (.ref b), .val (.int (Int32.ofNat (o + len))), .val (.ref d), .val (.int (Int32.ofNat (q + len))), .val (.int (Int32.ofNat len)), .val (.int (Int32.ofNat len)), z9] [.int (Int32.ofNat len)])) := g9.trans (by
    refine XS.iload X9.here hexec rfl (hb hbytes d3) rfl ?_
    refine XS.iload X9.here hexec rfl (hb hbytes d5) rfl ?_
    refine XS.icmpYes X9.here hexec rfl (pc0 := 7) rfl (hb hbytes d7) rfl (ii_ge_t (nlt32 (by omega) (Nat.le_refl _))) (by decide) rfl ?_
    refine XS.iload X9.here hexec rfl (hb hbytes d44) rfl ?_
    exact Steps.refl _)
  exact ⟨T9, some (.int (Int32.ofNat len)), _, _, _, X9, by simp, rfl, rfl, (fun h => by cases h), ⟨rfl, B9, p9.from hh0, f9⟩, fun fs hl => c11.trans (X9.ireturnOut hexec hret rfl (Or.inl rfl) (hb hbytes d46) hl)⟩
end Cmp5
namespace Cmp3
def yN : MethodName := ⟨"java/lang/StringUTF16", "compress", "([CII)[B"⟩
abbrev yB : ByteArray := jdk_52_method_16_code
theorem d0 : decode yB 0 = .ok (.iload_n 2, 1) := by decide +kernel
theorem d1 : decode yB 1 = .ok (.newarray .byte, 2) := by decide +kernel
theorem d3 : decode yB 3 = .ok (.astore_n 3, 1) := by decide +kernel
theorem d4 : decode yB 4 = .ok (.aload_n 0, 1) := by decide +kernel
theorem d5 : decode yB 5 = .ok (.iload_n 1, 1) := by decide +kernel
theorem d6 : decode yB 6 = .ok (.aload_n 3, 1) := by decide +kernel
theorem d7 : decode yB 7 = .ok (.iconst 0, 1) := by decide +kernel
theorem d8 : decode yB 8 = .ok (.iload_n 2, 1) := by decide +kernel
theorem d9 : decode yB 9 = .ok (.invokestatic 115, 3) := by decide +kernel
theorem d12 : decode yB 12 = .ok (.istore 4, 2) := by decide +kernel
theorem d14 : decode yB 14 = .ok (.iload 4, 2) := by decide +kernel
theorem d16 : decode yB 16 = .ok (.iload_n 2, 1) := by decide +kernel
theorem d17 : decode yB 17 = .ok (.if_icmp (.eq) 40, 3) := by decide +kernel
theorem d57 : decode yB 57 = .ok (.aload_n 3, 1) := by decide +kernel
theorem d58 : decode yB 58 = .ok (.areturn, 1) := by decide +kernel
def site : List Cond := [.arrayClass .byte, Cmp5.tab] ++ staticW U16 115 Cmp5.yN
def tab : Cond := tabOf yN yB 6 (some (.array .byte)) site
def P (b : Addr) (A : Cell) (o len : Nat) (args : Array Value) (s : State) : Prop := args = #[.ref b, .int (Int32.ofNat o), .int (Int32.ofNat len)] ∧ Ch b A s ∧ o + len ≤ A.slots.size ∧ len ≤ 536870912 ∧ ∀ i, i < len → ¬ 255 < cv A (o + i)
def E (b : Addr) (A : Cell) (o len : Nat) (r : Option Value) (s u : State) : Prop := NewArr .byte "[B" len (fun j => .int (lo8 (cv A (o + j)))) r s u ∧ u.heap.size = s.heap.size + 1
/-- no char of the range above 255: a new byte[] of their low bytes -/
theorem law (l : Launch) (b : Addr) (A : Cell) (o len : Nat) : Law l yN 3 3 1 18 yB 6 (some (.array .byte)) site (P b A o len) (E b A o len) [] 1 len := by
  refine Law.of_walk (plainFor_of_name (by decide +kernel)) (by decide +kernel) (by decide +kernel) (by decide) (fun _ _ h => by rw [h.1]; rfl) (fun _ U U' hal hh h => ⟨h.1, h.2.1.mv hal hh, h.2.2⟩) (fun r U U' V V' h1 hal h2 h => ⟨NewArr.mv r U U' V V' h1 hal h2 h.1, by rw [h1, h2]; exact h.2⟩) ?_
  intro p e s m args below meth c s₁ X0 hexec hbytes hml hret hlk hnm hown hh0 W hP
  obtain ⟨rfl, hA, l1, l2, hp⟩ := hP
  have a31 := hA.1.2.2.2
  have c1 : Steps p.tables e below (s₁.setTop (entryFrame m #[.ref b, .int (Int32.ofNat o), .int (Int32.ofNat len)] 6)) (s₁.setTop (mkF m 0 #[.val (.ref b), .val (.int (Int32.ofNat o)), .val (.int (Int32.ofNat len)), .unset, .unset, .unset] [])) := entry rfl
  have c2 : Steps p.tables e below (s₁.setTop (entryFrame m #[.ref b, .int (Int32.ofNat o), .int (Int32.ofNat len)] 6)) (s₁.setTop (mkF m 1 #[.val (.ref b), .val (.int (Int32.ofNat o)), .val (.int (Int32.ofNat len)), .unset, .unset, .unset] [.int (Int32.ofNat len)])) := c1.trans (by
    refine XS.iloadN X0.here hexec rfl (hb hbytes d0) rfl ?_
    exact Steps.refl _)
  obtain ⟨T3, B3, X3, ba3, bs3, bv3, bh3, bf3, st3⟩ := X0.anew hexec (atype := .byte) (wk W (.arrayClass .byte)) rfl (by show len * 1 ≤ _; omega) (by omega) (g := (mkF m 1 #[.val (.ref b), .val (.int (Int32.ofNat o)), .val (.int (Int32.ofNat len)), .unset, .unset, .unset] [.int (Int32.ofNat len)])) rfl (hb hbytes d1) (rest := []) rfl (Nat.le_refl _) (by show 0 + len ≤ len; omega)
  rw [hh0] at ba3 st3
  have kp3 : XT.Kept s T3 := (XT.Kept.of_eq hh0).push bh3
  have hA3 := hA.keep X3.warmed.alike (kp3 _ _ hA.1.1)
  have hne : b ≠ s.heap.size := hA.1.ne
  have c4 : Steps p.tables e below (s₁.setTop (entryFrame m #[.ref b, .int (Int32.ofNat o), .int (Int32.ofNat len)] 6)) (T3.setTop (mkF m 3 #[.val (.ref b), .val (.int (Int32.ofNat o)), .val (.int (Int32.ofNat len)), .unset, .unset, .unset] [.ref s.heap.size])) := c2.trans (st3 _ (Steps.refl _))
  have c5 : Steps p.tables e below (s₁.setTop (entryFrame m #[.ref b, .int (Int32.ofNat o), .int (Int32.ofNat len)] 6)) (T3.setTop (mkF m 9 #[.val (.ref b), .val (.int (Int32.ofNat o)), .val (.int (Int32.ofNat len)), .val (.ref s.heap.size), .unset, .unset] [.int (Int32.ofNat len), .int 0, .ref s.heap.size, .int (Int32.ofNat o), .ref b])) := c4.trans (by
    refine XS.astoreN X3.here hexec rfl (hb hbytes d3) rfl rfl rfl ?_
    refine XS.aloadN X3.here hexec rfl (hb hbytes d4) rfl rfl ?_
    refine XS.iloadN X3.here hexec rfl (hb hbytes d5) rfl ?_
    refine XS.aloadN X3.here hexec rfl (hb hbytes d6) rfl rfl ?_
    refine iconstV X3.here hexec rfl 0 (hb hbytes d7) (by decide) ?_
    refine XS.iloadN X3.here hexec rfl (hb hbytes d8) rfl ?_
    exact Steps.refl _)
  obtain ⟨v6, T6, X6, E6, g6⟩ := X3.callS hexec (Cmp5.law l b A s.heap.size B3 o 0 len) hown (wks W (staticW U16 115 Cmp5.yN)) (wk W Cmp5.tab) (W := 0) (Nat.le_of_ble_eq_true rfl) (Nat.le_of_ble_eq_true rfl) (Nat.le_refl _) (by show 0 + len + 0 ≤ len; omega) (g := (mkF m 9 #[.val (.ref b), .val (.int (Int32.ofNat o)), .val (.int (Int32.ofNat len)), .val (.ref s.heap.size), .unset, .unset] [.int (Int32.ofNat len), .int (Int32.ofNat 0), .ref s.heap.size, .int (Int32.ofNat o), .ref b])) rfl (by rw [hml]; rfl) c5 (argsL := [.ref b, .int (Int32.ofNat o), .ref s.heap.size, .int (Int32.ofNat 0), .int (Int32.ofNat len)]) (rest := []) rfl rfl (by show 2 * 0 + 0 ≤ _; decide) (hb hbytes d9) (⟨rfl, hA3, ba3, hne, l1, by rw [bs3]; simp, hp⟩)
  obtain ⟨rfl, B6, p6, f6⟩ := E6
  have c7 : Steps p.tables e below (s₁.setTop (entryFrame m #[.ref b, .int (Int32.ofNat o), .int (Int32.ofNat len)] 6)) (T6.setTop (mkF m 12 #[.val (.ref b), .val (.int (Int32.ofNat o)), .val (.int (Int32.ofNat len)), .val (.ref s.heap.size), .unset, .unset] [.int (Int32.ofNat len)])) := g6
  have c8 : Steps p.tables e below (s₁.setTop (entryFrame m #[.ref b, .int (Int32.ofNat o), .int (Int32.ofNat len)] 6)) (T6.setTop (mkF m 58 #[.val (.ref b), .val (.int (Int32.ofNat o)), .val (.int (Int32.ofNat len)), .val (.ref s.heap.size), .val (.int (Int32.ofNat len)), .unset] [.ref s.heap.size])) := c7.trans (by
    refine XS.istore X6.here hexec rfl (hb hbytes d12) rfl rfl ?_
    refine XS.iload X6.here hexec rfl (hb hbytes d14) rfl ?_
    refine XS.iloadN X6.here hexec rfl (hb hbytes d16) rfl ?_
    refine XS.icmpYes X6.here hexec rfl (pc0 := 17) rfl (hb hbytes d17) rfl (ii_eq_t rfl) (by decide) rfl ?_
    refine XS.aloadN X6.here hexec rfl (hb hbytes d57) rfl rfl ?_
    exact Steps.refl _)
  have X8 := X6.wide (L' := []) (cells' := 1) (slots' := len) (fun x hx hlt => by
    simp only [List.nil_append, copyLocs, List.mem_map, List.mem_range] at hx
    obtain ⟨i, -, rfl⟩ := hx
    exact absurd hlt (Nat.lt_irrefl _)) (Nat.le_refl _) (by omega)
  exact ⟨T6, some (.ref s.heap.size), _, _, _, X8, rfl, rfl, rfl, (fun h => by cases h), ⟨⟨rfl, B6, ba3.like (X3.warmed.alike.symm.trans X6.warmed.alike) p6.1 f6.1 f6.2.1 f6.2.2.1, f6.2.1.trans bv3, by rw [X6.warmed.alike.findClass, f6.1]; exact bf3, by rw [f6.2.2.1, bs3]; simp, fun j hj => by rw [f6.2.2.2 j, if_pos (by omega)]; rfl, kp3.put p6 (Nat.le_refl _)⟩, by rw [p6.2.2, bh3, hh0]; simp⟩, fun fs hl => c8.trans (X8.areturnOut hexec rfl hret rfl (hb hbytes d58) hl)⟩
end Cmp3
namespace CodL
def yN : MethodName := ⟨"java/lang/StringUTF16", "coderFromArrayLen", "([BI)B"⟩
abbrev yB : ByteArray := jdk_52_method_15_code
theorem d0 : decode yB 0 = .ok (.iload_n 1, 1) := by decide +kernel
theorem d1 : decode yB 1 = .ok (.aload_n 0, 1) := by decide +kernel
theorem d2 : decode yB 2 = .ok (.arraylength, 1) := by decide +kernel
theorem d3 : decode yB 3 = .ok (.isub, 1) := by decide +kernel
theorem d4 : decode yB 4 = .ok (.bipush 31, 2) := by decide +kernel
theorem d6 : decode yB 6 = .ok (.iushr, 1) := by decide +kernel
theorem d7 : decode yB 7 = .ok (.i2b, 1) := by decide +kernel
theorem d8 : decode yB 8 = .ok (.ireturn, 1) := by decide +kernel
def site : List Cond := []
def tab : Cond := tabOf yN yB 2 (some .byte) site
def P (d : Addr) (B : Cell) (args : Array Value) (s : State) : Prop := args = #[.ref d, .int (Int32.ofNat B.slots.size)] ∧ Arr .byte d B s
def E (r : Option Value) (s u : State) : Prop := XT.PureE (some (.int 0)) r s u
/-- an array as long as the number of chars: LATIN1 -/
theorem law (l : Launch) (d : Addr) (B : Cell) : Law l yN 2 2 0 0 yB 2 (some .byte) site (P d B) E [] 0 0 := by
  refine Law.of_walk (plainFor_of_name (by decide +kernel)) (by decide +kernel) (by decide +kernel) (by decide) (fun _ _ h => by rw [h.1]; rfl) (fun _ U U' hal hh h => ⟨h.1, h.2.mv hal hh⟩) (fun r U U' V V' h1 hal h2 h => XT.PureE.mv r U U' V V' h1 hal h2 h) ?_
  intro p e s m args below meth c s₁ X0 hexec hbytes hml hret hlk hnm hown hh0 W hP
  obtain ⟨rfl, hB⟩ := hP
  have hB0 := hB.mv X0.warmed.alike hh0
  have c1 : Steps p.tables e below (s₁.setTop (entryFrame m #[.ref d, .int (Int32.ofNat B.slots.size)] 2)) (s₁.setTop (mkF m 0 #[.val (.ref d), .val (.int (Int32.ofNat B.slots.size))] [])) := entry rfl
  have c2 : Steps p.tables e below (s₁.setTop (entryFrame m #[.ref d, .int (Int32.ofNat B.slots.size)] 2)) (s₁.setTop (mkF m 2 #[.val (.ref d), .val (.int (Int32.ofNat B.slots.size))] [.ref d, .int (Int32.ofNat B.slots.size)])) := c1.trans (by
    refine XS.iloadN X0.here hexec rfl (hb hbytes d0) rfl ?_
    refine XS.aloadN X0.here hexec rfl (hb hbytes d1) rfl rfl ?_
    exact Steps.refl _)
  have c3 : Steps p.tables e below (s₁.setTop (entryFrame m #[.ref d, .int (Int32.ofNat B.slots.size)] 2)) (s₁.setTop (mkF m 8 #[.val (.ref d), .val (.int (Int32.ofNat B.slots.size))] [.int (lo8 (ushr (Int32.ofNat B.slots.size - Int32.ofNat B.slots.size) 31))])) := c2.trans (by
    refine X0.alen hexec hB0 rfl rfl (hb hbytes d2) ?_
    refine XS.isub X0.here hexec rfl (hb hbytes d3) rfl ?_
    refine bipushV X0.here hexec rfl 31 (hb hbytes d4) (by decide) ?_
    refine iushr X0.here hexec rfl (hb hbytes d6) rfl ?_
    refine i2b X0.here hexec rfl (hb hbytes d7) rfl ?_
    exact Steps.refl _)
  have e0 : lo8 (ushr (Int32.ofNat B.slots.size - Int32.ofNat B.slots.size) 31) = 0 := by rw [Int32.sub_self]; decide
  rw [e0] at c3
  exact ⟨s₁, some (.int 0), _, _, _, X0, rfl, rfl, rfl, (fun h => by cases h), ⟨rfl, hh0⟩, fun fs hl => c3.trans (X0.ireturnOut hexec hret rfl (Or.inr (Or.inr (Or.inl rfl))) (hb hbytes d8) hl)⟩
end CodL
/-- the String at a is Latin-1 over a new byte[] (the heap's one new cell): the low bytes of the len chars of A from o on; every cell but a is kept -/
def Got (a : Addr) (D : Cell) (fV fC : Field) (A : Cell) (o len : Nat) (r : Option Value) (s u : State) : Prop := r = none ∧ ∃ D' V : Cell, Blank "java/lang/String" a D' u ∧ Same D D' [fV.slot, fC.slot] ∧ D'.slots[fV.slot]? = some (.ref s.heap.size) ∧ D'.slots[fC.slot]? = some (.int 0) ∧ Arr .byte s.heap.size V u ∧ V.vm = .none ∧ u.vm.findClass "[B" = some V.cls ∧ V.slots.size = len ∧ (∀ j, j < len → V.slots[j]? = some (.int (lo8 (cv A (o + j))))) ∧ (∀ (y : Addr) (c : Cell), y ≠ a → s.heap[y]? = some c → u.heap[y]? = some c) ∧ u.heap.size = s.heap.size + 1
theorem Got.mv {a : Addr} {D A : Cell} {fV fC : Field} {o len : Nat} : ∀ r (U U' V V' : State), U'.heap = U.heap → V.vm.Alike V'.vm → V'.heap = V.heap → Got a D fV fC A o len r U V → Got a D fV fC A o len r U' V' :=
  fun r U U' V V' h1 hal h2 ⟨e0, D', X, a1, a2, a3, a4, a5, a6, a7, a8, a9, a10, a11⟩ => ⟨e0, D', X, a1.mv hal h2, a2, by rw [h1]; exact a3, a4, by rw [h1]; exact a5.mv hal h2, a6, by rw [hal.findClass]; exact a7, a8, a9, by rw [h1, h2]; exact a10, by rw [h1, h2]; exact a11⟩
namespace New4
def yN : MethodName := ⟨"java/lang/String", "<init>", "([CIILjava/lang/Void;)V"⟩
abbrev yB : ByteArray := jdk_42_method_149_code
theorem d0 : decode yB 0 = .ok (.aload_n 0, 1) := by decide +kernel
theorem d1 : decode yB 1 = .ok (.invokespecial 1, 3) := by decide +kernel
theorem d4 : decode yB 4 = .ok (.iload_n 3, 1) := by decide +kernel
theorem d5 : decode yB 5 = .ok (.ifCond (.ne) 22, 3) := by decide +kernel
theorem d27 : decode yB 27 = .ok (.getstatic 38, 3) := by decide +kernel
theorem d30 : decode yB 30 = .ok (.ifCond (.eq) 28, 3) := by decide +kernel
theorem d33 : decode yB 33 = .ok (.aload_n 1, 1) := by decide +kernel
theorem d34 : decode yB 34 = .ok (.iload_n 2, 1) := by decide +kernel
theorem d35 : decode yB 35 = .ok (.iload_n 3, 1) := by decide +kernel
theorem d36 : decode yB 36 = .ok (.invokestatic 177, 3) := by decide +kernel
theorem d39 : decode yB 39 = .ok (.astore 5, 2) := by decide +kernel
theorem d41 : decode yB 41 = .ok (.aload_n 0, 1) := by decide +kernel
theorem d42 : decode yB 42 = .ok (.aload 5, 2) := by decide +kernel
theorem d44 : decode yB 44 = .ok (.iload_n 3, 1) := by decide +kernel
theorem d45 : decode yB 45 = .ok (.invokestatic 47, 3) := by decide +kernel
theorem d48 : decode yB 48 = .ok (.putfield 15, 3) := by decide +kernel
theorem d51 : decode yB 51 = .ok (.aload_n 0, 1) := by decide +kernel
theorem d52 : decode yB 52 = .ok (.aload 5, 2) := by decide +kernel
theorem d54 : decode yB 54 = .ok (.putfield 9, 3) := by decide +kernel
theorem d57 : decode yB 57 = .ok (.return_, 1) := by decide +kernel
def site : List Cond := [.fieldLink "java/lang/String" 38 "java/lang/String" "COMPACT_STRINGS" "Z", Cmp3.tab, CodL.tab, .laysFinal "java/lang/String" "java/lang/String" "value" "[B", .fieldLink "java/lang/String" 9 "java/lang/String" "value" "[B", .laysFinal "java/lang/String" "java/lang/String" "coder" "B", .fieldLink "java/lang/String" 15 "java/lang/String" "coder" "B"] ++ objW "java/lang/String" 1 ++ staticW "java/lang/String" 177 Cmp3.yN ++ staticW "java/lang/String" 47 CodL.yN
def tab : Cond := tabOf yN yB 6 none site
def P (a : Addr) (D : Cell) (fV fC : Field) (b : Addr) (A : Cell) (z : Int32) (o len : Nat) (args : Array Value) (s : State) : Prop := args = #[.ref a, .ref b, .int (Int32.ofNat o), .int (Int32.ofNat len), .null] ∧ Blank "java/lang/String" a D s ∧ Found "java/lang/String" "value" "[B" fV s ∧ Found "java/lang/String" "coder" "B" fC s ∧ Ch b A s ∧ StaticIs s "java/lang/String" "COMPACT_STRINGS" "Z" (.int z) ∧ ¬ z = 0 ∧ 0 < len ∧ o + len ≤ A.slots.size ∧ len ≤ 536870912 ∧ ∀ i, i < len → ¬ 255 < cv A (o + i)
def E (a : Addr) (D : Cell) (fV fC : Field) (A : Cell) (o len : Nat) (r : Option Value) (s u : State) : Prop := Got a D fV fC A o len r s u
/-- len > 0, no char of the range above 255: a Latin-1 String of their low bytes -/
theorem law (l : Launch) (a : Addr) (D : Cell) (fV fC : Field) (b : Addr) (A : Cell) (z : Int32) (o len : Nat) : Law l yN 5 4 2 35 yB 6 none site (P a D fV fC b A z o len) (E a D fV fC A o len) [⟨a, fC.slot⟩, ⟨a, fV.slot⟩] 1 len := by
  refine Law.of_walk (plainFor_of_name (by decide +kernel)) (by decide +kernel) (by decide +kernel) (by decide) (fun _ _ h => by rw [h.1]; rfl) (fun _ U U' hal hh h => ⟨h.1, h.2.1.mv hal hh, h.2.2.1.al hal, h.2.2.2.1.al hal, h.2.2.2.2.1.mv hal hh, h.2.2.2.2.2.1.there hal hh, h.2.2.2.2.2.2⟩) (fun r U U' V V' h1 hal h2 h => Got.mv r U U' V V' h1 hal h2 h) ?_
  intro p e s m args below meth c s₁ X0 hexec hbytes hml hret hlk hnm hown hh0 W hP
  obtain ⟨rfl, hB, f1, f2, hA, s1, hz, l0, l1, l2, hp⟩ := hP
  have a31 := hA.1.2.2.2
  have c1 : Steps p.tables e below (s₁.setTop (entryFrame m #[.ref a, .ref b, .int (Int32.ofNat o), .int (Int32.ofNat len), .null] 6)) (s₁.setTop (mkF m 0 #[.val (.ref a), .val (.ref b), .val (.int (Int32.ofNat o)), .val (.int (Int32.ofNat len)), .val .null, .unset] [])) := entry rfl
  have c2 : Steps p.tables e below (s₁.setTop (entryFrame m #[.ref a, .ref b, .int (Int32.ofNat o), .int (Int32.ofNat len), .null] 6)) (s₁.setTop (mkF m 1 #[.val (.ref a), .val (.ref b), .val (.int (Int32.ofNat o)), .val (.int (Int32.ofNat len)), .val .null, .unset] [.ref a])) := c1.trans (by
    refine XS.aloadN X0.here hexec rfl (hb hbytes d0) rfl rfl ?_
    exact Steps.refl _)
  obtain ⟨T3, X3, q3, st3⟩ := X0.oinit hexec hown (wks W (objW "java/lang/String" 1)) (g := (mkF m 1 #[.val (.ref a), .val (.ref b), .val (.int (Int32.ofNat o)), .val (.int (Int32.ofNat len)), .val .null, .unset] [.ref a])) rfl (by rw [hml]; rfl) (rest := []) rfl (hb hbytes d1) (W := 0) (by show 2 * 0 + 0 ≤ _; decide) (Nat.le_of_ble_eq_true rfl) (Nat.le_of_ble_eq_true rfl)
  have hh3 := q3.trans hh0
  have c4 : Steps p.tables e below (s₁.setTop (entryFrame m #[.ref a, .ref b, .int (Int32.ofNat o), .int (Int32.ofNat len), .null] 6)) (T3.setTop (mkF m 27 #[.val (.ref a), .val (.ref b), .val (.int (Int32.ofNat o)), .val (.int (Int32.ofNat len)), .val .null, .unset] [])) := (c2.trans (st3 _ (Steps.refl _))).trans (by
    refine XS.iloadN X3.here hexec rfl (hb hbytes d4) rfl ?_
    refine XS.ifYes X3.here hexec rfl (pc0 := 5) rfl (hb hbytes d5) rfl (i0_ne_t (nz32 (by omega) l0)) (by decide) rfl ?_
    exact Steps.refl _)
  obtain ⟨T5, X5, q5, st5⟩ := X3.sget hexec hown (wk W (.fieldLink "java/lang/String" 38 "java/lang/String" "COMPACT_STRINGS" "Z")) s1 (fun _ _ h => by rw [hh3]; exact h) (g := (mkF m 27 #[.val (.ref a), .val (.ref b), .val (.int (Int32.ofNat o)), .val (.int (Int32.ofNat len)), .val .null, .unset] [])) rfl (hb hbytes d27)
  have hh5 := q5.trans hh3
  have c6 : Steps p.tables e below (s₁.setTop (entryFrame m #[.ref a, .ref b, .int (Int32.ofNat o), .int (Int32.ofNat len), .null] 6)) (T5.setTop (mkF m 30 #[.val (.ref a), .val (.ref b), .val (.int (Int32.ofNat o)), .val (.int (Int32.ofNat len)), .val .null, .unset] [.int z])) := c4.trans (st5 _ (Steps.refl _))
  have c7 : Steps p.tables e below (s₁.setTop (entryFrame m #[.ref a, .ref b, .int (Int32.ofNat o), .int (Int32.ofNat len), .null] 6)) (T5.setTop (mkF m 36 #[.val (.ref a), .val (.ref b), .val (.int (Int32.ofNat o)), .val (.int (Int32.ofNat len)), .val .null, .unset] [.int (Int32.ofNat len), .int (Int32.ofNat o), .ref b])) := c6.trans (by
    refine XS.ifNo X5.here hexec rfl (hb hbytes d30) rfl (i0_eq_f hz) ?_
    refine XS.aloadN X5.here hexec rfl (hb hbytes d33) rfl rfl ?_
    refine XS.iloadN X5.here hexec rfl (hb hbytes d34) rfl ?_
    refine XS.iloadN X5.here hexec rfl (hb hbytes d35) rfl ?_
    exact Steps.refl _)
  obtain ⟨v8, T8, X8, E8, g8⟩ := X5.callS hexec (Cmp3.law l b A o len) hown (wks W (staticW "java/lang/String" 177 Cmp3.yN)) (wk W Cmp3.tab) (W := 0) (Nat.le_of_ble_eq_true rfl) (Nat.le_of_ble_eq_true rfl) (Nat.le_refl _) (by show 0 + len ≤ len; omega) (g := (mkF m 36 #[.val (.ref a), .val (.ref b), .val (.int (Int32.ofNat o)), .val (.int (Int32.ofNat len)), .val .null, .unset] [.int (Int32.ofNat len), .int (Int32.ofNat o), .ref b])) rfl (by rw [hml]; rfl) c7 (argsL := [.ref b, .int (Int32.ofNat o), .int (Int32.ofNat len)]) (rest := []) rfl rfl (by show 2 * 0 + 0 ≤ _; decide) (hb hbytes d36) (⟨rfl, hA.mv X5.warmed.alike hh5, l1, l2, hp⟩)
  obtain ⟨e8, z8⟩ := E8
  obtain ⟨rfl, N, n1, n2, n3, n4, n5, n6⟩ := NewArr.mv _ T5 s _ _ hh5.symm (Vm.Alike.refl _) rfl e8
  rw [hh5] at z8
  have hB1 := hB.keep X8.warmed.alike (n6 _ _ hB.1)
  have hne : s.heap.size ≠ a := (Nat.ne_of_lt (Array.getElem?_eq_some_iff.mp hB.1).1).symm
  have c9 : Steps p.tables e below (s₁.setTop (entryFrame m #[.ref a, .ref b, .int (Int32.ofNat o), .int (Int32.ofNat len), .null] 6)) (T8.setTop (mkF m 39 #[.val (.ref a), .val (.ref b), .val (.int (Int32.ofNat o)), .val (.int (Int32.ofNat len)), .val .null, .unset] [.ref s.heap.size])) := g8
  have c10 : Steps p.tables e below (s₁.setTop (entryFrame m #[.ref a, .ref b, .int (Int32.ofNat o), .int (Int32.ofNat len), .null] 6)) (T8.setTop (mkF m 45 #[.val (.ref a), .val (.ref b), .val (.int (Int32.ofNat o)), .val (.int (Int32.ofNat len)), .val .null, .val (.ref s.heap.size)] [.int (Int32.ofNat N.slots.size), .ref s.heap.size, .ref a])) := by
    have hc : Steps p.tables e below (s₁.setTop (entryFrame m #[.ref a, .ref b, .int (Int32.ofNat o), .int (Int32.ofNat len), .null] 6)) (T8.setTop (mkF m 45 #[.val (.ref a), .val (.ref b), .val (.int (Int32.ofNat o)), .val (.int (Int32.ofNat len)), .val .null, .val (.ref s.heap.size)] [.int (Int32.ofNat len), .ref s.heap.size, .ref a])) := c9.trans (by
      refine XS.astore X8.here hexec rfl (hb hbytes d39) rfl rfl rfl ?_
      refine XS.aloadN X8.here hexec rfl (hb hbytes d41) rfl rfl ?_
      refine XS.aload X8.here hexec rfl (hb hbytes d42) rfl rfl ?_
      refine XS.iloadN X8.here hexec rfl (hb hbytes d44) rfl ?_
      exact Steps.refl _)
    rw [n4]; exact hc
  obtain ⟨v11, T11, X11, E11, g11⟩ := X8.callS hexec (CodL.law l s.heap.size N) hown (wks W (staticW "java/lang/String" 47 CodL.yN)) (wk W CodL.tab) (W := 1) (Nat.le_of_ble_eq_true rfl) (Nat.le_of_ble_eq_true rfl) (Nat.le_refl _) (by show 0 + len + 0 ≤ len; omega) (g := (mkF m 45 #[.val (.ref a), .val (.ref b), .val (.int (Int32.ofNat o)), .val (.int (Int32.ofNat len)), .val .null, .val (.ref s.heap.size)] [.int (Int32.ofNat N.slots.size), .ref s.heap.size, .ref a])) rfl (by rw [hml]; rfl) c10 (argsL := [.ref s.heap.size, .int (Int32.ofNat N.slots.size)]) (rest := [.ref a]) rfl rfl (by show 2 * 0 + (1 + 0) ≤ _; decide) (hb hbytes d45) (⟨rfl, n1⟩)
  obtain ⟨rfl, q11⟩ := E11
  have hB11 := hB1.mv (X8.warmed.alike.symm.trans X11.warmed.alike) q11
  have c12 : Steps p.tables e below (s₁.setTop (entryFrame m #[.ref a, .ref b, .int (Int32.ofNat o), .int (Int32.ofNat len), .null] 6)) (T11.setTop (mkF m 48 #[.val (.ref a), .val (.ref b), .val (.int (Int32.ofNat o)), .val (.int (Int32.ofNat len)), .val .null, .val (.ref s.heap.size)] [.int 0, .ref a])) := g11
  obtain ⟨T13, X13, p13, bl13, sl13, st13⟩ := X11.finit hexec hown (wk W (.fieldLink "java/lang/String" 15 "java/lang/String" "coder" "B")) (Or.inr ⟨_, (wk W (.laysFinal "java/lang/String" "java/lang/String" "coder" "B"))⟩) (Or.inl ⟨rfl, hnm⟩) f2 (Or.inl rfl) hB11 (t := .byte) (by decide +kernel) rfl (g := (mkF m 48 #[.val (.ref a), .val (.ref b), .val (.int (Int32.ofNat o)), .val (.int (Int32.ofNat len)), .val .null, .val (.ref s.heap.size)] [.int 0, .ref a])) rfl (rest := []) rfl (hb hbytes d48)
  have c14 : Steps p.tables e below (s₁.setTop (entryFrame m #[.ref a, .ref b, .int (Int32.ofNat o), .int (Int32.ofNat len), .null] 6)) (T13.setTop (mkF m 54 #[.val (.ref a), .val (.ref b), .val (.int (Int32.ofNat o)), .val (.int (Int32.ofNat len)), .val .null, .val (.ref s.heap.size)] [.ref s.heap.size, .ref a])) := (c12.trans (st13 _ (Steps.refl _))).trans (by
    refine XS.aloadN X13.here hexec rfl (hb hbytes d51) rfl rfl ?_
    refine XS.aload X13.here hexec rfl (hb hbytes d52) rfl rfl ?_
    exact Steps.refl _)
  obtain ⟨T15, X15, p15, bl15, sl15, st15⟩ := X13.finit hexec hown (wk W (.fieldLink "java/lang/String" 9 "java/lang/String" "value" "[B")) (Or.inr ⟨_, (wk W (.laysFinal "java/lang/String" "java/lang/String" "value" "[B"))⟩) (Or.inl ⟨rfl, hnm⟩) f1 (Or.inl rfl) bl13 (t := (.array .byte)) (by decide +kernel) rfl (g := (mkF m 54 #[.val (.ref a), .val (.ref b), .val (.int (Int32.ofNat o)), .val (.int (Int32.ofNat len)), .val .null, .val (.ref s.heap.size)] [.ref s.heap.size, .ref a])) rfl (rest := []) rfl (hb hbytes d54)
  have c16 : Steps p.tables e below (s₁.setTop (entryFrame m #[.ref a, .ref b, .int (Int32.ofNat o), .int (Int32.ofNat len), .null] 6)) (T15.setTop (mkF m 57 #[.val (.ref a), .val (.ref b), .val (.int (Int32.ofNat o)), .val (.int (Int32.ofNat len)), .val .null, .val (.ref s.heap.size)] [])) := c14.trans (st15 _ (Steps.refl _))
  have ap := apart (Or.inr ⟨_, (wk W (.laysFinal "java/lang/String" "java/lang/String" "value" "[B"))⟩) (Or.inr ⟨_, (wk W (.laysFinal "java/lang/String" "java/lang/String" "coder" "B"))⟩) f1 f2 (t₁ := .array .byte) (t₂ := .byte) (by decide +kernel) (by decide +kernel) (by decide)
  have al := X8.warmed.alike.symm.trans X15.warmed.alike
  have n7 : T11.heap[s.heap.size]? = some N := by rw [q11]; exact n1.1
  exact ⟨T15, none, _, _, _, X15, by simp, rfl, by omega, (fun _ => rfl), ⟨rfl, _, N, bl15, ((Same.refl D _).set _ (by simp)).set _ (by simp), sl15, (Cell.slots_setSlot_ne _ ap).trans sl13, n1.keep al (p15.other hne (p13.other hne n7)), n2, by rw [al.findClass]; exact n3, n4, n5, fun y c h1 h2 => p15.other h1 (p13.other h1 (by rw [q11]; exact n6 y c h2)), by rw [p15.2.2, p13.2.2, q11]; exact z8⟩, fun fs hl => c16.trans (X15.returnOut hexec hret (hb hbytes d57) hl)⟩
end New4
namespace New1
def yN : MethodName := ⟨"java/lang/String", "<init>", "([C)V"⟩
abbrev yB : ByteArray := jdk_42_method_3_code
theorem d0 : decode yB 0 = .ok (.aload_n 0, 1) := by decide +kernel
theorem d1 : decode yB 1 = .ok (.aload_n 1, 1) := by decide +kernel
theorem d2 : decode yB 2 = .ok (.iconst 0, 1) := by decide +kernel
theorem d3 : decode yB 3 = .ok (.aload_n 1, 1) := by decide +kernel
theorem d4 : decode yB 4 = .ok (.arraylength, 1) := by decide +kernel
theorem d5 : decode yB 5 = .ok (.aconst_null, 1) := by decide +kernel
theorem d6 : decode yB 6 = .ok (.invokespecial 27, 3) := by decide +kernel
theorem d9 : decode yB 9 = .ok (.return_, 1) := by decide +kernel
def site : List Cond := [New4.tab] ++ initW "java/lang/String" 27 New4.yN
def tab : Cond := tabOf yN yB 2 none site
def P (a : Addr) (D : Cell) (fV fC : Field) (b : Addr) (A : Cell) (z : Int32) (args : Array Value) (s : State) : Prop := args = #[.ref a, .ref b] ∧ Blank "java/lang/String" a D s ∧ Found "java/lang/String" "value" "[B" fV s ∧ Found "java/lang/String" "coder" "B" fC s ∧ Ch b A s ∧ StaticIs s "java/lang/String" "COMPACT_STRINGS" "Z" (.int z) ∧ ¬ z = 0 ∧ 0 < A.slots.size ∧ A.slots.size ≤ 536870912 ∧ ∀ i, i < A.slots.size → ¬ 255 < cv A i
def E (a : Addr) (D : Cell) (fV fC : Field) (A : Cell) (r : Option Value) (s u : State) : Prop := Got a D fV fC A 0 A.slots.size r s u
/-- new String(chars), not empty, no char above 255: a Latin-1 String of their low bytes -/
theorem law (l : Launch) (a : Addr) (D : Cell) (fV fC : Field) (b : Addr) (A : Cell) (z : Int32) : Law l yN 2 1 3 52 yB 2 none site (P a D fV fC b A z) (E a D fV fC A) [⟨a, fC.slot⟩, ⟨a, fV.slot⟩] 1 A.slots.size := by
  refine Law.of_walk (plainFor_of_name (by decide +kernel)) (by decide +kernel) (by decide +kernel) (by decide) (fun _ _ h => by rw [h.1]; rfl) (fun _ U U' hal hh h => ⟨h.1, h.2.1.mv hal hh, h.2.2.1.al hal, h.2.2.2.1.al hal, h.2.2.2.2.1.mv hal hh, h.2.2.2.2.2.1.there hal hh, h.2.2.2.2.2.2⟩) (fun r U U' V V' h1 hal h2 h => Got.mv r U U' V V' h1 hal h2 h) ?_
  intro p e s m args below meth c s₁ X0 hexec hbytes hml hret hlk hnm hown hh0 W hP
  obtain ⟨rfl, hB, f1, f2, hA, s1, hz, l0, l2, hp⟩ := hP
  have c1 : Steps p.tables e below (s₁.setTop (entryFrame m #[.ref a, .ref b] 2)) (s₁.setTop (mkF m 0 #[.val (.ref a), .val (.ref b)] [])) := entry rfl
  have c2 : Steps p.tables e below (s₁.setTop (entryFrame m #[.ref a, .ref b] 2)) (s₁.setTop (mkF m 6 #[.val (.ref a), .val (.ref b)] [.null, .int (Int32.ofNat A.slots.size), .int 0, .ref b, .ref a])) := c1.trans (by
    refine XS.aloadN X0.here hexec rfl (hb hbytes d0) rfl rfl ?_
    refine XS.aloadN X0.here hexec rfl (hb hbytes d1) rfl rfl ?_
    refine iconstV X0.here hexec rfl 0 (hb hbytes d2) (by decide) ?_
    refine XS.aloadN X0.here hexec rfl (hb hbytes d3) rfl rfl ?_
    refine X0.alen hexec (hA.1.mv X0.warmed.alike hh0) rfl rfl (hb hbytes d4) ?_
    refine XS.aconstNull X0.here hexec rfl (hb hbytes d5) ?_
    exact Steps.refl _)
  obtain ⟨v3, T3, X3, E3, g3⟩ := X0.callN hexec (New4.law l a D fV fC b A z 0 A.slots.size) rfl hown (wks W (initW "java/lang/String" 27 New4.yN)) (W New4.tab (by simp only [site, List.mem_cons, List.mem_append, true_or, or_true])) (W := 0) (Nat.le_of_ble_eq_true rfl) (Nat.le_of_ble_eq_true rfl) (Nat.le_refl _) (by show 0 + A.slots.size ≤ A.slots.size; omega) (g := (mkF m 6 #[.val (.ref a), .val (.ref b)] [.null, .int (Int32.ofNat A.slots.size), .int (Int32.ofNat 0), .ref b, .ref a])) rfl (by rw [hml]; rfl) c2 (argsL := [.ref b, .int (Int32.ofNat 0), .int (Int32.ofNat A.slots.size), .null]) (rest := []) rfl rfl (by show 2 * 0 + 0 ≤ _; decide) (hb hbytes d6) (⟨rfl, hB.mv X0.warmed.alike hh0, f1.al X0.warmed.alike, f2.al X0.warmed.alike, hA.mv X0.warmed.alike hh0, s1.there X0.warmed.alike hh0, hz, l0, by omega, l2, fun i hi => by rw [Nat.zero_add]; exact hp i hi⟩)
  have e0 := Got.mv _ s₁ s _ _ hh0.symm (Vm.Alike.refl _) rfl E3
  obtain rfl := e0.1
  have c4 : Steps p.tables e below (s₁.setTop (entryFrame m #[.ref a, .ref b] 2)) (T3.setTop (mkF m 9 #[.val (.ref a), .val (.ref b)] [])) := g3
  exact ⟨T3, none, _, _, _, X3, by simp, rfl, by omega, (fun _ => rfl), e0, fun fs hl => c4.trans (X3.returnOut hexec hret (hb hbytes d9) hl)⟩
theorem pays {l : Launch} {R : Room} {p : Program} {e : Env} {below : List Frame} {s : State} {sargs : Array Value} {len W : Nat} (a : Addr) (D : Cell) (fV fC : Field) (b : Addr) (A : Cell) (z : Int32) (htab : tab.before sargs s = true) (hfr : 4 ≤ R.frames) (hlo : W + 65 ≤ R.locals) :
    Back l R p e below s sargs yN len W (fun A₁ a₁ => A₁.cells + 1 ≤ R.cells ∧ A₁.slots + A.slots.size ≤ R.slots ∧ P a D fV fC b A z a₁ A₁.U) (fun A₁ _ v₁ B₁ => E a D fV fC A v₁ A₁.U B₁.U ∧ B₁.locs = A₁.locs ++ [⟨a, fC.slot⟩, ⟨a, fV.slot⟩] ∧ B₁.cells = A₁.cells + 1 ∧ B₁.slots = A₁.slots + A.slots.size) :=
  (law l a D fV fC b A z).pays htab hfr (by omega)
end New1
/-- the byte, read back as charAt reads it, is the char -/
theorem lo8_mask {x : Int32} (h0 : ¬ x < 0) (h1 : ¬ 255 < x) : lo8 x &&& 255 = x := by
  have t : ∀ k : Fin 256, lo8 (Int32.ofNat k.val) &&& 255 = Int32.ofNat k.val := by decide +kernel
  rw [Int32.lt_iff_toInt_lt] at h0 h1
  have e0 : (0 : Int32).toInt = 0 := rfl
  have e1 : (255 : Int32).toInt = 255 := rfl
  obtain ⟨k, hk⟩ : ∃ k : Nat, x.toInt = k := ⟨x.toInt.toNat, by omega⟩
  have hx : x = Int32.ofNat k := Int32.toInt_inj.mp (by rw [hk, Int32.toInt_ofNat_small (by omega)])
  rw [hx]
  exact t ⟨k, by omega⟩
end StrChars
namespace StrChars.Road
open Jvm Sem ClassFile Op Lib Jvm.Stand Jvm.Free Jvm.Free.XT
open Jvm.Lib.Cold (StaticIs)
abbrev ST : String := "java/lang/String"
/-- every table word that New1's law asks, flat -/
abbrev words : List Jvm.Cond := [.code New1.yN New1.yB 2 none, .initialized ST, .methodLink ST 27 New4.yN, .instanceMethod New4.yN,
  .code New4.yN New4.yB 6 none, .fieldLink ST 38 ST "COMPACT_STRINGS" "Z", .laysFinal ST ST "value" "[B", .fieldLink ST 9 ST "value" "[B", .laysFinal ST ST "coder" "B", .fieldLink ST 15 ST "coder" "B",
  .methodLink ST 1 Lib.objectInit, .instanceMethod Lib.objectInit, .code Lib.objectInit ⟨#[0xb1]⟩ 1 none, .methodLink ST 177 Cmp3.yN, .static Cmp3.yN, .methodLink ST 47 CodL.yN, .static CodL.yN,
  .code Cmp3.yN Cmp3.yB 6 (some (.array .byte)), .initialized U16, .arrayClass .byte, .methodLink U16 115 Cmp5.yN, .static Cmp5.yN, .code Cmp5.yN Cmp5.yB 7 (some .int), .code CodL.yN CodL.yB 2 (some .byte)]
theorem tab_of {a : Array Value} {s : State} (h : ∀ w ∈ words, w.before a s = true) : New1.tab.before a s = true := by
  have h5 : Cmp5.tab.before a s = true := unparts (wk h (.code Cmp5.yN Cmp5.yB 7 (some .int))) (wks h (.initialized Cmp5.yN.cls :: Cmp5.site))
  have hc : CodL.tab.before a s = true := unparts (wk h (.code CodL.yN CodL.yB 2 (some .byte))) (wks h (.initialized CodL.yN.cls :: CodL.site))
  have q5 : ∀ w ∈ Cmp5.tab :: words, w.before a s = true := fun w hw => (List.mem_cons.mp hw).elim (fun e => e ▸ h5) (h w)
  have h3 : Cmp3.tab.before a s = true := unparts (wk q5 (.code Cmp3.yN Cmp3.yB 6 (some (.array .byte)))) (wks q5 (.initialized Cmp3.yN.cls :: Cmp3.site))
  have q3 : ∀ w ∈ Cmp3.tab :: CodL.tab :: words, w.before a s = true := fun w hw => (List.mem_cons.mp hw).elim (fun e => e ▸ h3) fun hw => (List.mem_cons.mp hw).elim (fun e => e ▸ hc) (h w)
  have h4 : New4.tab.before a s = true := unparts (wk q3 (.code New4.yN New4.yB 6 none)) (wks q3 (.initialized New4.yN.cls :: New4.site))
  have q4 : ∀ w ∈ New4.tab :: words, w.before a s = true := fun w hw => (List.mem_cons.mp hw).elim (fun e => e ▸ h4) (h w)
  exact unparts (wk q4 (.code New1.yN New1.yB 2 none)) (wks q4 (.initialized New1.yN.cls :: New1.site))
/-- the words ride from the start Z to the walk's own state -/
theorem moved {Z s : State} {a0 args : Array Value} (hZ : Z.Warmed39 s.vm) (hw : ∀ d ∈ words, d.before a0 Z = true) : ∀ d ∈ words, d.before args s = true := fun d hd => by
  have q := hw d hd
  have t : ∀ d ∈ words, d = .arrayClass .byte ∨ (d.onTables && d.keepsFace) = true := by decide +kernel
  rcases t d hd with rfl | t
  · exact RoadKit.mvA hZ q
  · exact RoadKit.mv hZ q t
/-- WHAT COMES BACK, over the tables of the start Z: h the heap at the call, h' behind it -/
def Q (Z : State) (x : Addr) (A : Cell) (h : Heap) (v : Option Value) (h' : Heap) (L : List Loc) : Prop := v = none ∧ (∀ y ∈ L, y.base = x) ∧ RoadKit.Keep h h' [x] ∧ h'.size = h.size + 1 ∧ RoadKit.Exa Z h' x ST ∧ RoadKit.Fld Z h' x ST "value" "[B" (.ref h.size) ∧ RoadKit.Fld Z h' x ST "coder" "B" (.int 0) ∧
  (∃ V : Cell, RoadKit.Arr Z h' h.size V .byte ∧ V.vm = .none ∧ Z.vm.findClass "[B" = some V.cls ∧ V.slots.size = A.slots.size ∧ ∀ j, j < A.slots.size → V.slots[j]? = some (.int (lo8 (cv A j)))) ∧
  ∀ (O n d : String) (w : Value), RoadKit.Fld Z h x O n d w → RoadKit.slotOf Z O n d ≠ RoadKit.slotOf Z ST "value" "[B" → RoadKit.slotOf Z O n d ≠ RoadKit.slotOf Z ST "coder" "B" → RoadKit.Fld Z h' x O n d w
/-- **new String(chars) AT A CALL, IN THE ROAD'S FORM**: for specialBack behind newO: x the fresh String, b the char[] with the cell A -/
theorem back {p : Program} {l : Launch} {e : Env} {R : Room} {s : State} {args : Array Value} {below : List Frame} {len W : Nat} {Z : State} {a0 : Array Value} {h : Heap} (hZ : Z.Warmed39 s.vm) (hw : ∀ d ∈ words, d.before a0 Z = true) {kI : Nat} (wi : (Jvm.Cond.instantiable ST kI).before a0 Z = true)
    {x b : Addr} {A : Cell} {z : Int32} {v0 c0 : Value} (E : RoadKit.Exa Z h x ST) (V : RoadKit.Fld Z h x ST "value" "[B" v0) (C : RoadKit.Fld Z h x ST "coder" "B" c0) (K : RoadKit.Arr Z h b A .char) (hty : Typed .char A) (S : RoadKit.Sta Z h ST "COMPACT_STRINGS" "Z" (.int z)) (hz : ¬ z = 0)
    (l0 : 0 < A.slots.size) (l2 : A.slots.size ≤ 536870912) (hp : ∀ i, i < A.slots.size → ¬ 255 < cv A i) (hfr : 4 ≤ R.frames) (hlo : W + 65 ≤ R.locals) :
    Back l R p e below s args New1.yN len W (fun P a => a = #[.ref x, .ref b] ∧ P.U.heap = h ∧ P.cells + 1 ≤ R.cells ∧ P.slots + A.slots.size ≤ R.slots)
      (fun P _ v B => ∃ L, Q Z x A h v B.U.heap L ∧ B.locs = P.locs ++ L ∧ B.cells = P.cells + 1 ∧ B.slots = P.slots + A.slots.size) := by
  intro m meth c P g ig mk a X hg hsize hdg hW hn hp'
  obtain ⟨rfl, rfl, r1, r2⟩ := hp'
  have al : Z.vm.Alike P.U.vm := hZ.alike.trans X.warmed.alike
  obtain ⟨D, cfV, kV, iV, fV, hD, gV, stV, knV, obV, asV, slV⟩ := id V
  obtain ⟨D', cfC, kC, iC, fC, hD', gC, stC, -, -, asC, slC⟩ := id C
  cases hD.symm.trans hD'
  obtain ⟨D2, kD, e1, e2, e3, e4, e5⟩ := id E
  cases hD.symm.trans e1
  obtain ⟨c2, k2, i1, i2, i3, -⟩ := Cond.instantiable_spec wi
  cases e2.symm.trans i1
  cases e3.symm.trans i2
  obtain ⟨kU, u1, u2⟩ := al.2.2 _ _ e3
  have hB : Blank ST x D P.U := ⟨hD, ⟨knV, fun q hq => by rw [hq] at obV; cases obV⟩, by rw [al.findClass]; exact e2, kU, u1, by rw [u2]; exact i3, by rw [u2]; exact e5 i3⟩
  have F1 : Found ST "value" "[B" fV P.U := ⟨SBG.found_only al ⟨cfV, kV, iV, gV⟩, stV⟩
  have F2 : Found ST "coder" "B" fC P.U := ⟨SBG.found_only al ⟨cfC, kC, iC, gC⟩, stC⟩
  have hA : Ch b A P.U := ⟨⟨K.1, State.isArrayOf_alike al K.2.1, K.2.2, by omega⟩, hty⟩
  have hS : StaticIs P.U ST "COMPACT_STRINGS" "Z" (.int z) := by
    obtain ⟨cfS, iS, kS, fS, st, cS, t1, t2, t3, t4, t5, t6, t7⟩ := S
    exact StaticIs.there (s := { Z with heap := P.U.heap }) ⟨cfS, iS, kS, fS, st, cS, t1, t2, t3, t4, t5, (fun q => by rw [q] at t6; cases t6), t7⟩ al rfl
  obtain ⟨v, B, X', ⟨⟨hv, E', V', q1, q2, q3, q4, q5, q6, q7, q8, q9, q10, q11⟩, hl, hc, hs⟩, st⟩ := New1.pays x D fV fC b A z (tab_of (moved hZ hw)) hfr hlo m meth c P g ig mk _ X hg hsize hdg hW hn ⟨r1, r2, rfl, hB, F1, F2, hA, hS, hz, l0, l2, hp⟩
  have al' : Z.vm.Alike B.U.vm := hZ.alike.trans X'.warmed.alike
  have hsz : E'.slots.size = D.slots.size := by
    obtain ⟨-, -, -, kB, w1, w2, w3⟩ := q1
    obtain ⟨kB', y1, y2⟩ := al'.2.2 _ _ e3
    rw [q2.2.1] at w1
    cases w1.symm.trans y1
    rw [w3, e5 i3, y2]
  refine ⟨v, B, X', ⟨_, ⟨hv, ?_, ⟨by omega, fun y cy hy hn' => q10 y cy (by simpa using hn') hy, fun y cy hy => ?_⟩, q11, ⟨E', _, q1.1, by rw [q2.2.1]; exact e2, by rw [q2.2.1]; exact e3, by rw [q2.1]; exact obV, fun _ => by rw [hsz]; exact e5 i3⟩,
    ⟨E', cfV, kV, iV, fV, q1.1, gV, stV, by rw [q2.1]; exact knV, by rw [q2.1]; exact obV, by rw [q2.2.1]; exact asV, q3⟩, ⟨E', cfC, kC, iC, fC, q1.1, gC, stC, by rw [q2.1]; exact knV, by rw [q2.1]; exact obV, by rw [q2.2.1]; exact asC, q4⟩,
    ⟨V', ⟨q5.1, State.isArrayOf_alike al'.symm q5.2.1, q5.2.2.1⟩, q6, by rw [← al'.findClass]; exact q7, q8, fun j hj => by have := q9 j hj; rwa [Nat.zero_add] at this⟩, fun O n d w F n1 n2 => ?_⟩, hl, hc, hs⟩, st⟩
  · intro y hy
    simp only [List.mem_cons, List.not_mem_nil, or_false] at hy
    rcases hy with rfl | rfl <;> rfl
  · by_cases q : y = x
    · subst q
      cases hD.symm.trans hy
      exact ⟨E', q1.1, q2.2.1, q2.1, hsz⟩
    · exact ⟨cy, q10 y cy q hy, rfl, rfl, rfl⟩
  · obtain ⟨D3, cf, k, i, f, g1, g2, g3, g4, g5, g6, g7⟩ := F
    cases hD.symm.trans g1
    simp only [RoadKit.slotOf, g2, gV, gC, Option.map_some, Option.getD_some] at n1 n2
    exact ⟨E', cf, k, i, f, q1.1, g2, g3, by rw [q2.1]; exact g4, by rw [q2.1]; exact g5, by rw [q2.2.1]; exact g6, by rw [q2.2.2 f.slot (by simp [n1, n2])]; exact g7⟩
end StrChars.Road
namespace StrChars.Road
open Jvm Sem ClassFile Op Lib Jvm.Stand Jvm.Free Jvm.Free.XT
/-- WHAT COMES BACK, the byte[] as a list of values -/
def QA (Z : State) (x : Addr) (zn : Int32) (cs : List Int32) (h : Heap) (v : Option Value) (h' : Heap) (L : List Loc) : Prop := v = none ∧ (∀ y ∈ L, y.base = x) ∧ RoadKit.Keep h h' [x] ∧ h'.size = h.size + 1 ∧ RoadKit.Exa Z h' x ST ∧ RoadKit.Fld Z h' x ST "value" "[B" (.ref h.size) ∧ RoadKit.Fld Z h' x ST "coder" "B" (.int 0) ∧
  (∃ kb, Z.vm.findClass "[B" = some kb ∧ RoadKit.Arv Z h' h.size kb .byte zn (cs.map fun c => .int (lo8 c)) (.int 0)) ∧
  ∀ (O n d : String) (w : Value), RoadKit.Fld Z h x O n d w → RoadKit.slotOf Z O n d ≠ RoadKit.slotOf Z ST "value" "[B" → RoadKit.slotOf Z O n d ≠ RoadKit.slotOf Z ST "coder" "B" → RoadKit.Fld Z h' x O n d w
/-- **new String(chars) AT A CALL, THE ARRAYS AS LISTS**: the char[] at b holds cs, not empty, no char above 255 -/
theorem backArv {p : Program} {l : Launch} {e : Env} {R : Room} {s : State} {args : Array Value} {below : List Frame} {len W : Nat} {Z : State} {a0 : Array Value} {h : Heap} (hZ : Z.Warmed39 s.vm) (hw : ∀ d ∈ words, d.before a0 Z = true) {kI : Nat} (wi : (Jvm.Cond.instantiable ST kI).before a0 Z = true)
    {x b : Addr} {k : ClassId} {zn z : Int32} {cs : List Int32} {dv v0 c0 : Value} (E : RoadKit.Exa Z h x ST) (V : RoadKit.Fld Z h x ST "value" "[B" v0) (C : RoadKit.Fld Z h x ST "coder" "B" c0) (K : RoadKit.Arv Z h b k .char zn (cs.map Value.int) dv) (S : RoadKit.Sta Z h ST "COMPACT_STRINGS" "Z" (.int z)) (hz : ¬ z = 0)
    (hlen : zn.toNatClampNeg = cs.length) (h0 : 0 < cs.length) (hbig : cs.length ≤ 536870912) (hall : ∀ c ∈ cs, ¬ 255 < c) (hfr : 4 ≤ R.frames) (hlo : W + 65 ≤ R.locals) :
    Back l R p e below s args New1.yN len W (fun P a => a = #[.ref x, .ref b] ∧ P.U.heap = h ∧ P.cells + 1 ≤ R.cells ∧ P.slots + cs.length ≤ R.slots)
      (fun P _ v B => ∃ L, QA Z x zn cs h v B.U.heap L ∧ B.locs = P.locs ++ L ∧ B.cells = P.cells + 1 ∧ B.slots = P.slots + cs.length) := by
  obtain ⟨A, K1, K2, K3, K4, K5, K6⟩ := K
  have e : A.slots.size = cs.length := K3.trans hlen
  have hat : ∀ (i : Nat) (hi : i < cs.length), A.slots[i]? = some (.int cs[i]) := fun i hi => by rw [K5 i (by omega)]; simp [List.getD_eq_getElem?_getD, hi]
  have hcv : ∀ (i : Nat) (hi : i < cs.length), cv A i = cs[i] := fun i hi => by unfold cv; rw [hat i hi]
  have hty : Typed .char A := fun i v hv => by
    have hi : i < A.slots.size := (Array.getElem?_eq_some_iff.mp hv).1
    have q := K5 i hi
    rw [hv] at q
    rw [Option.some.inj q]
    exact K6 i hi
  refine Back.mono (back hZ hw wi E V C K1 hty S hz (by omega) (by omega) (fun i hi => by rw [hcv i (by omega)]; exact hall _ (List.getElem_mem _)) hfr hlo) (fun P a hp => ⟨hp.1, hp.2.1, hp.2.2.1, by rw [e]; exact hp.2.2.2⟩) (fun P a v B hp hq => ?_)
  obtain ⟨L, ⟨q1, q2, q3, q4, q5, q6, q7, ⟨V', v1, v2, v3, v4, v5⟩, q9⟩, hl, hc, hs⟩ := hq
  refine ⟨L, ⟨q1, q2, q3, q4, q5, q6, q7, ⟨V'.cls, v3, V', v1, rfl, by rw [v4, e, hlen], K4, fun i hi => ?_, fun i hi => ?_⟩, q9⟩, hl, hc, by rw [hs, e]⟩
  · have hi' : i < cs.length := by omega
    rw [v5 i (by omega), hcv i hi']; simp [List.getD_eq_getElem?_getD, hi']
  · have hi' : i < cs.length := by omega
    simp only [List.getD_eq_getElem?_getD, List.getElem?_map, List.getElem?_eq_getElem hi', Option.map_some, Option.getD_some]
    exact fits_lo8 _
end StrChars.Road
namespace StrChars.Road
open Jvm Sem ClassFile Op Lib Jvm.Stand Jvm.Free Jvm.Free.XT
/-- WHAT COMES BACK, in the writer's own shape -/
def QV (Z : State) (x : Addr) (N : Int32) (bs : List Int32) (h : Heap) (n0 : Nat) (v : Option Value) (h' : Heap) (L : List Loc) : Prop := v = none ∧ RoadKit.Fr n0 L ∧ RoadKit.Keep h h' [x] ∧ RoadKit.Exa Z h' x ST ∧ RoadKit.Fld Z h' x ST "coder" "B" (.int 0) ∧
  ∃ (t : Addr) (kb : ClassId), n0 ≤ t ∧ h.size ≤ t ∧ ¬ t = x ∧ RoadKit.Fld Z h' x ST "value" "[B" (.ref t) ∧ RoadKit.Arv Z h' t kb .byte N (bs.map Value.int) (.int 0)
/-- **new String(chars) AT A CALL, FOR THE WRITER**: a char[] of n known ints, each 0 to 255 -/
theorem backV {p : Program} {l : Launch} {e : Env} {R : Room} {s : State} {args : Array Value} {below : List Frame} {len W : Nat} {Z : State} {a0 : Array Value} {h : Heap} (hZ : Z.Warmed39 s.vm) (hw : ∀ d ∈ words, d.before a0 Z = true) {kI : Nat} (wi : (Jvm.Cond.instantiable ST kI).before a0 Z = true)
    {x b : Addr} {kC : ClassId} {cs bs : List Int32} {d v0 c0 : Value} {z N : Int32} {n n0 : Nat} (hx0 : n0 ≤ x) (hh0 : n0 ≤ h.size) (E : RoadKit.Exa Z h x ST) (V : RoadKit.Fld Z h x ST "value" "[B" v0) (C : RoadKit.Fld Z h x ST "coder" "B" c0) (K : RoadKit.Arv Z h b kC .char N (cs.map Value.int) d) (S : RoadKit.Sta Z h ST "COMPACT_STRINGS" "Z" (.int z)) (hz : ¬ z = 0)
    (hn : cs.length = n) (hN : N = Int32.ofNat n) (l0 : 0 < n) (l2 : n ≤ 4000) (hp : ∀ c ∈ cs, ¬ c < 0 ∧ ¬ (255 : Int32) < c) (hb : bs = cs.map (fun c => c.toInt8.toInt32)) (hfr : 4 ≤ R.frames) (hlo : W + 65 ≤ R.locals) :
    Back l R p e below s args (⟨"java/lang/String", "<init>", "([C)V"⟩ : MethodName) len W (fun P a => a = #[.ref x, .ref b] ∧ P.U.heap = h ∧ P.cells + 1 ≤ R.cells ∧ P.slots + n ≤ R.slots)
      (fun P _ v B => ∃ L, QV Z x N bs h n0 v B.U.heap L ∧ B.locs = P.locs ++ L ∧ B.cells = P.cells + 1 ∧ B.slots = P.slots + n) := by
  subst hn hN hb
  refine Back.mono (backArv hZ hw wi E V C K S hz (n32 (by omega)) l0 (by omega) (fun c hc => (hp c hc).2) hfr hlo) (fun P a hp => hp) (fun P a v B hp hq => ?_)
  obtain ⟨L, ⟨q1, q2, q3, q4, q5, q6, q7, ⟨kb, v1, v2⟩, q9⟩, hl, hc, hs⟩ := hq
  exact ⟨L, ⟨q1, fun y hy => by rw [q2 y hy]; exact hx0, q3, q5, q7, h.size, kb, hh0, Nat.le_refl _, Nat.ne_of_gt E.lt, q6, by rw [List.map_map]; exact v2⟩, hl, hc, hs⟩
end StrChars.Road
namespace StrChars
open Jvm Sem ClassFile Op Lib Jvm.Stand Jvm.Free.XT Jvm.Free.ALB Jvm.Free.JM Jvm.Free
open Jvm.Lib.Cold (StaticIs)
def hi8 (x : Int32) : Int32 := lo8 (x >>> ((8 : Int32) &&& 31))
/-- what StringUTF16.getChar makes of two bytes -/
def pairCh (u v : Int32) : Int32 := (((u &&& 255) <<< ((0 : Int32) &&& 31)) ||| ((v &&& 255) <<< ((8 : Int32) &&& 31))).toUInt32.toUInt16.toUInt32.toInt32
theorem shr0 (c : Int32) : c >>> ((0 : Int32) &&& 31) = c := by
  have e : ((0 : Int32) &&& 31) = 0 := by decide
  rw [e]
  apply Int32.toBitVec_inj.mp
  rw [Int32.toBitVec_shiftRight]
  have e1 : ((0 : Int32).toBitVec.smod 32) = 0#32 := by decide
  rw [e1, BitVec.sshiftRight_eq']
  exact BitVec.sshiftRight_zero
theorem lo8_and (x : Int32) : (lo8 x &&& 255).toBitVec.toNat = x.toBitVec.toNat % 256 := by
  have h : (lo8 x).toBitVec = (x.toBitVec.signExtend 8).signExtend 32 := by rw [lo8, Int8.toBitVec_toInt32, Int32.toBitVec_toInt8]
  rw [Int32.toBitVec_and, BitVec.toNat_and, h]
  have e : ((x.toBitVec.signExtend 8).signExtend 32).toNat % 256 = x.toBitVec.toNat % 256 := by
    rw [BitVec.toNat_signExtend]
    have hlt := x.toBitVec.isLt
    simp only [BitVec.toNat_setWidth, BitVec.toNat_signExtend]
    split <;> split <;> omega
  rw [← e]
  exact Nat.and_two_pow_sub_one_eq_mod _ 8
theorem pair_says {c : Int32} (h0 : ¬ c < 0) (h1 : ¬ 65535 < c) : pairCh (lo8 c) (hi8 c) = c := by
  rw [Int32.lt_iff_toInt_lt] at h0 h1
  have e0 : (0 : Int32).toInt = 0 := rfl
  have e1 : (65535 : Int32).toInt = 65535 := rfl
  have hc : c.toInt = c.toBitVec.toNat := by
    have := c.toBitVec.isLt
    have e : c.toInt = c.toBitVec.toInt := rfl
    rw [e] at h0 h1
    rw [e]
    rw [BitVec.toInt_eq_toNat_cond] at h0 h1 ⊢
    split at h0 <;> split <;> omega
  have hn : c.toBitVec.toNat < 65536 := by omega
  have a1 := lo8_and c
  have a2 : (hi8 c &&& 255).toBitVec.toNat = c.toBitVec.toNat / 256 := by
    rw [hi8, lo8_and]
    have e : ((8 : Int32) &&& 31) = 8 := by decide
    rw [e, Int32.toBitVec_shiftRight]
    have e2 : ((8 : Int32).toBitVec.smod 32) = 8#32 := by decide
    rw [e2, BitVec.sshiftRight_eq', BitVec.toNat_sshiftRight_of_msb_false (by rw [BitVec.msb_eq_false_iff_two_mul_lt]; omega)]
    show c.toBitVec.toNat >>> 8 % 256 = _
    rw [Nat.shiftRight_eq_div_pow]
    omega
  unfold pairCh
  apply Int32.toBitVec_inj.mp
  apply BitVec.eq_of_toNat_eq
  have f0 : ((0 : Int32) &&& 31) = 0 := by decide
  have f8 : ((8 : Int32) &&& 31) = 8 := by decide
  rw [f0, f8]
  have g : (((lo8 c &&& 255) <<< (0 : Int32)) ||| ((hi8 c &&& 255) <<< (8 : Int32))).toBitVec.toNat = c.toBitVec.toNat := by
    rw [Int32.toBitVec_or, Int32.toBitVec_shiftLeft, Int32.toBitVec_shiftLeft]
    have s0 : ((0 : Int32).toBitVec.smod 32) = 0#32 := by decide
    have s8 : ((8 : Int32).toBitVec.smod 32) = 8#32 := by decide
    rw [s0, s8, BitVec.toNat_or]
    simp only [BitVec.shiftLeft_eq', BitVec.toNat_shiftLeft, a1, a2]
    show (c.toBitVec.toNat % 256) <<< 0 % 2 ^ 32 ||| (c.toBitVec.toNat / 256) <<< 8 % 2 ^ 32 = _
    rw [Nat.shiftLeft_zero, Nat.mod_eq_of_lt (show c.toBitVec.toNat % 256 < 2 ^ 32 by omega), Nat.mod_eq_of_lt (show (c.toBitVec.toNat / 256) <<< 8 < 2 ^ 32 by rw [Nat.shiftLeft_eq]; omega), Nat.or_comm, ← Nat.shiftLeft_add_eq_or_of_lt (by omega), Nat.shiftLeft_eq]
    omega
  show BitVec.toNat (((((lo8 c &&& 255) <<< (0 : Int32)) ||| ((hi8 c &&& 255) <<< (8 : Int32))).toBitVec.setWidth 16).setWidth 32) = _
  rw [BitVec.toNat_setWidth, BitVec.toNat_setWidth, g]
  omega
end StrChars
namespace StrChars
open Jvm Sem ClassFile Op Lib Jvm.Stand Jvm.Free.XT Jvm.Free.ALB Jvm.Free.JM Jvm.Free
open Jvm.Lib.Cold (StaticIs)
theorem shr1 {n : Nat} (h : 2 * n < 2 ^ 31) : Int32.ofNat (2 * n) >>> ((1 : Int32) &&& 31) = Int32.ofNat n := by
  have e : ((1 : Int32) &&& 31) = 1 := by decide
  rw [e]
  apply Int32.toBitVec_inj.mp
  rw [Int32.toBitVec_shiftRight]
  have e1 : ((1 : Int32).toBitVec.smod 32) = 1#32 := by decide
  have hm : (BitVec.ofNat 32 (2 * n)).toNat = 2 * n := by rw [BitVec.toNat_ofNat, Nat.mod_eq_of_lt (by omega)]
  rw [e1, BitVec.sshiftRight_eq']
  apply BitVec.eq_of_toNat_eq
  show ((BitVec.ofNat 32 (2 * n)).sshiftRight 1).toNat = (BitVec.ofNat 32 n).toNat
  rw [BitVec.toNat_sshiftRight_of_msb_false (by rw [BitVec.msb_eq_false_iff_two_mul_lt, hm]; omega), hm, BitVec.toNat_ofNat, Nat.shiftRight_eq_div_pow]
  omega
/-- charAt's cast of a byte read back -/
def chr8 (u : Int32) : Int32 := (u &&& 255).toUInt32.toUInt16.toUInt32.toInt32
theorem chr8_lo8 {c : Int32} (h0 : ¬ c < 0) (h1 : ¬ 255 < c) : chr8 (lo8 c) = c := by
  have t : ∀ k : Fin 256, (Int32.ofNat k.val).toUInt32.toUInt16.toUInt32.toInt32 = Int32.ofNat k.val := by decide +kernel
  unfold chr8
  rw [lo8_mask h0 h1]
  rw [Int32.lt_iff_toInt_lt] at h0 h1
  have e0 : (0 : Int32).toInt = 0 := rfl
  have e1 : (255 : Int32).toInt = 255 := rfl
  obtain ⟨k, hk⟩ : ∃ k : Nat, c.toInt = k := ⟨c.toInt.toNat, by omega⟩
  have hx : c = Int32.ofNat k := Int32.toInt_inj.mp (by rw [hk, Int32.toInt_ofNat_small (by omega)])
  rw [hx]
  exact t ⟨k, by omega⟩
theorem narrow_ch {c : Int32} (h0 : ¬ c < 0) (h1 : ¬ 65535 < c) : narrow .char (.int c) = .int c := by
  have q : narrow .char (.int (pairCh (lo8 c) (hi8 c))) = .int (pairCh (lo8 c) (hi8 c)) := narrow_c _
  rwa [pair_says h0 h1] at q
/-- the array's cell V codes the n chars f 0 .. f (n - 1) by the coder cd, as the JDK does: coder 1 just where some char is above 255 -/
def Cod (cd : Int32) (n : Nat) (f : Nat → Int32) (V : Cell) : Prop := (cd = 0 ∧ V.slots.size = n ∧ ∀ j, j < n → V.slots[j]? = some (.int (lo8 (f j))) ∧ ¬ 255 < f j) ∨ (cd = 1 ∧ V.slots.size = 2 * n ∧ (∀ j, j < n → V.slots[2 * j]? = some (.int (lo8 (f j))) ∧ V.slots[2 * j + 1]? = some (.int (hi8 (f j)))) ∧ ∃ j, j < n ∧ 255 < f j)
theorem Cod.cd {cd : Int32} {n : Nat} {f : Nat → Int32} {V : Cell} (h : Cod cd n f V) : cd = 0 ∨ cd = 1 := h.imp (fun q => q.1) fun q => q.1
theorem Cod.len {cd : Int32} {n : Nat} {f : Nat → Int32} {V : Cell} (h : Cod cd n f V) (hs : V.slots.size < 2 ^ 31) : Int32.ofNat V.slots.size >>> (cd &&& 31) = Int32.ofNat n := by
  rcases h with ⟨rfl, h, -⟩ | ⟨rfl, h, -⟩
  · rw [shr0, h]
  · rw [h, shr1 (by omega)]
/-- **x is a String of the n chars f 0 .. f (n - 1)**, Latin-1 or UTF-16; its array at t has the cell V -/
def Txt (x t : Addr) (V : Cell) (cd : Int32) (n : Nat) (f : Nat → Int32) (U : State) : Prop := Exact "java/lang/String" x U ∧ Has x "java/lang/String" "value" "[B" (.ref t) U ∧ Has x "java/lang/String" "coder" "B" (.int cd) U ∧ XT.Arr .byte t V U ∧ Cod cd n f V ∧ ∀ j, j < n → ¬ f j < 0 ∧ ¬ 65535 < f j
theorem Txt.mv {x t : Addr} {V : Cell} {cd : Int32} {n : Nat} {f : Nat → Int32} {U U' : State} (h : Txt x t V cd n f U) (hal : U.vm.Alike U'.vm) (hh : U'.heap = U.heap) : Txt x t V cd n f U' := ⟨h.1.mv hal hh, h.2.1.mv hal hh, h.2.2.1.mv hal hh, h.2.2.2.1.mv hal hh, h.2.2.2.2⟩
namespace Cdr
def yN : MethodName := ⟨"java/lang/String", "coder", "()B"⟩
abbrev yB : ByteArray := jdk_42_method_152_code
theorem d0 : decode yB 0 = .ok (.getstatic 38, 3) := by decide +kernel
theorem d3 : decode yB 3 = .ok (.ifCond (.eq) 10, 3) := by decide +kernel
theorem d6 : decode yB 6 = .ok (.aload_n 0, 1) := by decide +kernel
theorem d7 : decode yB 7 = .ok (.getfield 15, 3) := by decide +kernel
theorem d10 : decode yB 10 = .ok (.goto 4, 3) := by decide +kernel
theorem d14 : decode yB 14 = .ok (.ireturn, 1) := by decide +kernel
def site : List Cond := [.fieldLink "java/lang/String" 38 "java/lang/String" "COMPACT_STRINGS" "Z", .fieldLink "java/lang/String" 15 "java/lang/String" "coder" "B"]
def tab : Cond := tabOf yN yB 1 (some .byte) site
def P (x : Addr) (cd z : Int32) (args : Array Value) (s : State) : Prop := args = #[.ref x] ∧ Has x "java/lang/String" "coder" "B" (.int cd) s ∧ (cd = 0 ∨ cd = 1) ∧ StaticIs s "java/lang/String" "COMPACT_STRINGS" "Z" (.int z) ∧ ¬ z = 0
def E (cd : Int32) (r : Option Value) (s u : State) : Prop := XT.PureE (some (.int cd)) r s u
theorem law (l : Launch) (x : Addr) (cd z : Int32) : Law l yN 1 0 0 0 yB 1 (some .byte) site (P x cd z) (E cd) [] 0 0 := by
  refine Law.of_walk (plainFor_of_name (by decide +kernel)) (by decide +kernel) (by decide +kernel) (by decide) (fun _ _ h => by rw [h.1]; rfl) (fun _ U U' hal hh h => ⟨h.1, h.2.1.mv hal hh, h.2.2.1, h.2.2.2.1.there hal hh, h.2.2.2.2⟩) (fun r U U' V V' h1 hal h2 h => XT.PureE.mv r U U' V V' h1 hal h2 h) ?_
  intro p e s m args below meth c s₁ X0 hexec hbytes hml hret hlk hnm hown hh0 W hP
  obtain ⟨rfl, hx, hc, s1, hz⟩ := hP
  have c1 : Steps p.tables e below (s₁.setTop (entryFrame m #[.ref x] 1)) (s₁.setTop (mkF m 0 #[.val (.ref x)] [])) := entry rfl
  obtain ⟨T2, X2, q2, st2⟩ := X0.sget hexec hown (wk W (.fieldLink "java/lang/String" 38 "java/lang/String" "COMPACT_STRINGS" "Z")) s1 (fun _ _ h => by rw [hh0]; exact h) (g := (mkF m 0 #[.val (.ref x)] [])) rfl (hb hbytes d0)
  have hh2 := q2.trans hh0
  have c3 : Steps p.tables e below (s₁.setTop (entryFrame m #[.ref x] 1)) (T2.setTop (mkF m 7 #[.val (.ref x)] [.ref x])) := (c1.trans (st2 _ (Steps.refl _))).trans (by
    refine XS.ifNo X2.here hexec rfl (hb hbytes d3) rfl (i0_eq_f hz) ?_
    refine XS.aloadN X2.here hexec rfl (hb hbytes d6) rfl rfl ?_
    exact Steps.refl _)
  obtain ⟨T4, X4, q4, st4⟩ := X2.hget hexec hown (wk W (.fieldLink "java/lang/String" 15 "java/lang/String" "coder" "B")) (hx.mv X2.warmed.alike hh2) (g := (mkF m 7 #[.val (.ref x)] [.ref x])) rfl (rest := []) rfl (hb hbytes d7)
  have c5 : Steps p.tables e below (s₁.setTop (entryFrame m #[.ref x] 1)) (T4.setTop (mkF m 14 #[.val (.ref x)] [.int cd])) := (c3.trans (st4 _ (Steps.refl _))).trans (by
    refine XS.goto X4.here hexec rfl (pc0 := 10) rfl (hb hbytes d10) (by decide) rfl ?_
    exact Steps.refl _)
  exact ⟨T4, some (.int cd), _, _, _, X4, rfl, rfl, rfl, (fun h => by cases h), ⟨rfl, q4.trans hh2⟩, fun fs hl => c5.trans (X4.ireturnOut hexec hret (by rcases hc with rfl | rfl <;> rfl) (Or.inr (Or.inr (Or.inl rfl))) (hb hbytes d14) hl)⟩
end Cdr
namespace Len
def yN : MethodName := ⟨"java/lang/String", "length", "()I"⟩
abbrev yB : ByteArray := jdk_42_method_54_code
theorem d0 : decode yB 0 = .ok (.aload_n 0, 1) := by decide +kernel
theorem d1 : decode yB 1 = .ok (.getfield 9, 3) := by decide +kernel
theorem d4 : decode yB 4 = .ok (.arraylength, 1) := by decide +kernel
theorem d5 : decode yB 5 = .ok (.aload_n 0, 1) := by decide +kernel
theorem d6 : decode yB 6 = .ok (.invokevirtual 335, 3) := by decide +kernel
theorem d9 : decode yB 9 = .ok (.ishr, 1) := by decide +kernel
theorem d10 : decode yB 10 = .ok (.ireturn, 1) := by decide +kernel
def site : List Cond := [.fieldLink "java/lang/String" 9 "java/lang/String" "value" "[B", Cdr.tab] ++ virtW "java/lang/String" 335 "java/lang/String" Cdr.yN Cdr.yN
def tab : Cond := tabOf yN yB 1 (some .int) site
def P (x t : Addr) (V : Cell) (cd : Int32) (n : Nat) (f : Nat → Int32) (z : Int32) (args : Array Value) (s : State) : Prop := args = #[.ref x] ∧ Txt x t V cd n f s ∧ StaticIs s "java/lang/String" "COMPACT_STRINGS" "Z" (.int z) ∧ ¬ z = 0
def E (n : Nat) (r : Option Value) (s u : State) : Prop := XT.PureE (some (.int (Int32.ofNat n))) r s u
/-- length() of a String of n chars, in either coding -/
theorem law (l : Launch) (x t : Addr) (V : Cell) (cd : Int32) (n : Nat) (f : Nat → Int32) (z : Int32) : Law l yN 1 0 1 13 yB 1 (some .int) site (P x t V cd n f z) (E n) [] 0 0 := by
  refine Law.of_walk (plainFor_of_name (by decide +kernel)) (by decide +kernel) (by decide +kernel) (by decide) (fun _ _ h => by rw [h.1]; rfl) (fun _ U U' hal hh h => ⟨h.1, h.2.1.mv hal hh, h.2.2.1.there hal hh, h.2.2.2⟩) (fun r U U' V V' h1 hal h2 h => XT.PureE.mv r U U' V V' h1 hal h2 h) ?_
  intro p e s m args below meth c s₁ X0 hexec hbytes hml hret hlk hnm hown hh0 W hP
  obtain ⟨rfl, hx, s1, hz⟩ := hP
  have v31 := hx.2.2.2.1.2.2.2
  have c1 : Steps p.tables e below (s₁.setTop (entryFrame m #[.ref x] 1)) (s₁.setTop (mkF m 1 #[.val (.ref x)] [.ref x])) := Steps.trans (entry rfl) (by
    show Steps p.tables e below (s₁.setTop (mkF m 0 #[.val (.ref x)] [])) _
    refine XS.aloadN X0.here hexec rfl (hb hbytes d0) rfl rfl ?_
    exact Steps.refl _)
  obtain ⟨T2, X2, q2, st2⟩ := X0.hget hexec hown (wk W (.fieldLink "java/lang/String" 9 "java/lang/String" "value" "[B")) (hx.mv X0.warmed.alike hh0).2.1 (g := (mkF m 1 #[.val (.ref x)] [.ref x])) rfl (rest := []) rfl (hb hbytes d1)
  have hh2 := q2.trans hh0
  have hx2 := hx.mv X2.warmed.alike hh2
  have c3 : Steps p.tables e below (s₁.setTop (entryFrame m #[.ref x] 1)) (T2.setTop (mkF m 6 #[.val (.ref x)] [.ref x, .int (Int32.ofNat V.slots.size)])) := (c1.trans (st2 _ (Steps.refl _))).trans (by
    refine X2.alen hexec hx2.2.2.2.1 rfl rfl (hb hbytes d4) ?_
    refine XS.aloadN X2.here hexec rfl (hb hbytes d5) rfl rfl ?_
    exact Steps.refl _)
  obtain ⟨v4, T4, X4, E4, g4⟩ := X2.callV hexec (Cdr.law l x cd z) hown (wks W (virtW "java/lang/String" 335 "java/lang/String" Cdr.yN Cdr.yN)) rfl (by decide) (wk W Cdr.tab) (W := 1) (Nat.le_of_ble_eq_true rfl) (Nat.le_of_ble_eq_true rfl) (Nat.le_refl _) (Nat.le_refl _) (hx2.1.fc X2.warmed.alike) hx2.1.is (g := (mkF m 6 #[.val (.ref x)] [.ref x, .int (Int32.ofNat V.slots.size)])) rfl (by rw [hml]; rfl) c3 (argsL := []) (rest := [.int (Int32.ofNat V.slots.size)]) rfl rfl (by show 2 * 0 + (1 + 0) ≤ _; decide) (hb hbytes d6) (⟨rfl, hx2.2.2.1, hx.2.2.2.2.1.cd, s1.there X2.warmed.alike hh2, hz⟩)
  obtain ⟨rfl, q4⟩ := E4
  have c5 : Steps p.tables e below (s₁.setTop (entryFrame m #[.ref x] 1)) (T4.setTop (mkF m 10 #[.val (.ref x)] [.int (Int32.ofNat V.slots.size >>> (cd &&& 31))])) := Steps.trans g4 (by
    refine ishr X4.here hexec rfl (hb hbytes d9) rfl ?_
    exact Steps.refl _)
  rw [hx.2.2.2.2.1.len v31] at c5
  exact ⟨T4, some (.int (Int32.ofNat n)), _, _, _, X4, rfl, rfl, rfl, (fun h => by cases h), ⟨rfl, q4.trans hh2⟩, fun fs hl => c5.trans (X4.ireturnOut hexec hret rfl (Or.inl rfl) (hb hbytes d10) hl)⟩
theorem pays {l : Launch} {R : Room} {p : Program} {e : Env} {below : List Frame} {s : State} {sargs : Array Value} {len W : Nat} (x t : Addr) (V : Cell) (cd : Int32) (n : Nat) (f : Nat → Int32) (z : Int32) (htab : tab.before sargs s = true) (hfr : 2 ≤ R.frames) (hlo : W + 25 ≤ R.locals) :
    Back l R p e below s sargs yN len W (fun A₁ a₁ => A₁.cells + 0 ≤ R.cells ∧ A₁.slots + 0 ≤ R.slots ∧ P x t V cd n f z a₁ A₁.U) (fun A₁ _ v₁ B₁ => E n v₁ A₁.U B₁.U ∧ B₁.locs = A₁.locs ++ [] ∧ B₁.cells = A₁.cells + 0 ∧ B₁.slots = A₁.slots + 0) :=
  (law l x t V cd n f z).pays htab hfr (by omega)
end Len
namespace IsL
def yN : MethodName := ⟨"java/lang/String", "isLatin1", "()Z"⟩
abbrev yB : ByteArray := jdk_42_method_154_code
theorem d0 : decode yB 0 = .ok (.getstatic 38, 3) := by decide +kernel
theorem d3 : decode yB 3 = .ok (.ifCond (.eq) 14, 3) := by decide +kernel
theorem d6 : decode yB 6 = .ok (.aload_n 0, 1) := by decide +kernel
theorem d7 : decode yB 7 = .ok (.getfield 15, 3) := by decide +kernel
theorem d10 : decode yB 10 = .ok (.ifCond (.ne) 7, 3) := by decide +kernel
theorem d13 : decode yB 13 = .ok (.iconst 1, 1) := by decide +kernel
theorem d14 : decode yB 14 = .ok (.goto 4, 3) := by decide +kernel
theorem d17 : decode yB 17 = .ok (.iconst 0, 1) := by decide +kernel
theorem d18 : decode yB 18 = .ok (.ireturn, 1) := by decide +kernel
def site : List Cond := [.fieldLink "java/lang/String" 38 "java/lang/String" "COMPACT_STRINGS" "Z", .fieldLink "java/lang/String" 15 "java/lang/String" "coder" "B"]
def tab : Cond := tabOf yN yB 1 (some .boolean) site
def P (x : Addr) (cd z : Int32) (args : Array Value) (s : State) : Prop := args = #[.ref x] ∧ Has x "java/lang/String" "coder" "B" (.int cd) s ∧ (cd = 0 ∨ cd = 1) ∧ StaticIs s "java/lang/String" "COMPACT_STRINGS" "Z" (.int z) ∧ ¬ z = 0
def E (cd : Int32) (r : Option Value) (s u : State) : Prop := XT.PureE (some (.int (1 - cd))) r s u
theorem law (l : Launch) (x : Addr) (cd z : Int32) : Law l yN 1 0 0 0 yB 1 (some .boolean) site (P x cd z) (E cd) [] 0 0 := by
  refine Law.of_walk (plainFor_of_name (by decide +kernel)) (by decide +kernel) (by decide +kernel) (by decide) (fun _ _ h => by rw [h.1]; rfl) (fun _ U U' hal hh h => ⟨h.1, h.2.1.mv hal hh, h.2.2.1, h.2.2.2.1.there hal hh, h.2.2.2.2⟩) (fun r U U' V V' h1 hal h2 h => XT.PureE.mv r U U' V V' h1 hal h2 h) ?_
  intro p e s m args below meth c s₁ X0 hexec hbytes hml hret hlk hnm hown hh0 W hP
  obtain ⟨rfl, hx, hc, s1, hz⟩ := hP
  have c1 : Steps p.tables e below (s₁.setTop (entryFrame m #[.ref x] 1)) (s₁.setTop (mkF m 0 #[.val (.ref x)] [])) := entry rfl
  obtain ⟨T2, X2, q2, st2⟩ := X0.sget hexec hown (wk W (.fieldLink "java/lang/String" 38 "java/lang/String" "COMPACT_STRINGS" "Z")) s1 (fun _ _ h => by rw [hh0]; exact h) (g := (mkF m 0 #[.val (.ref x)] [])) rfl (hb hbytes d0)
  have hh2 := q2.trans hh0
  have c3 : Steps p.tables e below (s₁.setTop (entryFrame m #[.ref x] 1)) (T2.setTop (mkF m 7 #[.val (.ref x)] [.ref x])) := (c1.trans (st2 _ (Steps.refl _))).trans (by
    refine XS.ifNo X2.here hexec rfl (hb hbytes d3) rfl (i0_eq_f hz) ?_
    refine XS.aloadN X2.here hexec rfl (hb hbytes d6) rfl rfl ?_
    exact Steps.refl _)
  obtain ⟨T4, X4, q4, st4⟩ := X2.hget hexec hown (wk W (.fieldLink "java/lang/String" 15 "java/lang/String" "coder" "B")) (hx.mv X2.warmed.alike hh2) (g := (mkF m 7 #[.val (.ref x)] [.ref x])) rfl (rest := []) rfl (hb hbytes d7)
  have c5 : Steps p.tables e below (s₁.setTop (entryFrame m #[.ref x] 1)) (T4.setTop (mkF m 10 #[.val (.ref x)] [.int cd])) := c3.trans (st4 _ (Steps.refl _))
  have c6 : Steps p.tables e below (s₁.setTop (entryFrame m #[.ref x] 1)) (T4.setTop (mkF m 18 #[.val (.ref x)] [.int (1 - cd)])) := by
    rcases hc with rfl | rfl
    · exact c5.trans (by
        refine XS.ifNo X4.here hexec rfl (hb hbytes d10) rfl (i0_ne_f rfl) ?_
        refine iconstV X4.here hexec rfl 1 (hb hbytes d13) (by decide) ?_
        refine XS.goto X4.here hexec rfl (pc0 := 14) rfl (hb hbytes d14) (by decide) rfl ?_
        exact Steps.refl _)
    · exact c5.trans (by
        refine XS.ifYes X4.here hexec rfl (pc0 := 10) rfl (hb hbytes d10) rfl (i0_ne_t (by decide)) (by decide) rfl ?_
        refine iconstV X4.here hexec rfl 0 (hb hbytes d17) (by decide) ?_
        exact Steps.refl _)
  exact ⟨T4, some (.int (1 - cd)), _, _, _, X4, rfl, rfl, rfl, (fun h => by cases h), ⟨rfl, q4.trans hh2⟩, fun fs hl => c6.trans (X4.ireturnOut hexec hret (by rcases hc with rfl | rfl <;> rfl) (Or.inr (Or.inl rfl)) (hb hbytes d18) hl)⟩
end IsL
namespace LChA
def yN : MethodName := ⟨"java/lang/StringLatin1", "charAt", "([BI)C"⟩
abbrev yB : ByteArray := jdk_43_method_2_code
theorem d0 : decode yB 0 = .ok (.iload_n 1, 1) := by decide +kernel
theorem d1 : decode yB 1 = .ok (.aload_n 0, 1) := by decide +kernel
theorem d2 : decode yB 2 = .ok (.arraylength, 1) := by decide +kernel
theorem d3 : decode yB 3 = .ok (.invokestatic 9, 3) := by decide +kernel
theorem d6 : decode yB 6 = .ok (.aload_n 0, 1) := by decide +kernel
theorem d7 : decode yB 7 = .ok (.iload_n 1, 1) := by decide +kernel
theorem d8 : decode yB 8 = .ok (.baload, 1) := by decide +kernel
theorem d9 : decode yB 9 = .ok (.sipush 255, 3) := by decide +kernel
theorem d12 : decode yB 12 = .ok (.iand, 1) := by decide +kernel
theorem d13 : decode yB 13 = .ok (.i2c, 1) := by decide +kernel
theorem d14 : decode yB 14 = .ok (.ireturn, 1) := by decide +kernel
def site : List Cond := [JO.Str_checkIndex.tab] ++ staticW "java/lang/StringLatin1" 9 JO.Str_checkIndex.yN
def tab : Cond := tabOf yN yB 2 (some .char) site
def P (t : Addr) (V : Cell) (i : Nat) (u : Int32) (fm : Value) (args : Array Value) (s : State) : Prop := args = #[.ref t, .int (Int32.ofNat i)] ∧ XT.Arr .byte t V s ∧ V.slots[i]? = some (.int u) ∧ (StaticIs s "jdk/internal/util/Preconditions" "SIOOBE_FORMATTER" "Ljava/util/function/BiFunction;" fm ∧ fm.isRef = true)
def E (u : Int32) (r : Option Value) (s w : State) : Prop := XT.PureE (some (.int (chr8 u))) r s w
theorem law (l : Launch) (t : Addr) (V : Cell) (i : Nat) (u : Int32) (fm : Value) : Law l yN 2 2 2 27 yB 2 (some .char) site (P t V i u fm) (E u) [] 0 0 := by
  refine Law.of_walk (plainFor_of_name (by decide +kernel)) (by decide +kernel) (by decide +kernel) (by decide) (fun _ _ h => by rw [h.1]; rfl) (fun _ U U' hal hh h => ⟨h.1, h.2.1.mv hal hh, h.2.2.1, h.2.2.2.1.there hal hh, h.2.2.2.2⟩) (fun r U U' V V' h1 hal h2 h => XT.PureE.mv r U U' V V' h1 hal h2 h) ?_
  intro p e s m args below meth c s₁ X0 hexec hbytes hml hret hlk hnm hown hh0 W hP
  obtain ⟨rfl, hV, hu, s1, rf⟩ := hP
  have v31 := hV.2.2.2
  have hi : i < V.slots.size := (Array.getElem?_eq_some_iff.mp hu).1
  have c1 : Steps p.tables e below (s₁.setTop (entryFrame m #[.ref t, .int (Int32.ofNat i)] 2)) (s₁.setTop (mkF m 0 #[.val (.ref t), .val (.int (Int32.ofNat i))] [])) := entry rfl
  have c2 : Steps p.tables e below (s₁.setTop (entryFrame m #[.ref t, .int (Int32.ofNat i)] 2)) (s₁.setTop (mkF m 3 #[.val (.ref t), .val (.int (Int32.ofNat i))] [.int (Int32.ofNat V.slots.size), .int (Int32.ofNat i)])) := c1.trans (by
    refine XS.iloadN X0.here hexec rfl (hb hbytes d0) rfl ?_
    refine XS.aloadN X0.here hexec rfl (hb hbytes d1) rfl rfl ?_
    refine X0.alen hexec (hV.mv X0.warmed.alike hh0) rfl rfl (hb hbytes d2) ?_
    exact Steps.refl _)
  obtain ⟨v3, T3, X3, E3, g3⟩ := X0.callS hexec (JO.Str_checkIndex.law l (Int32.ofNat i) (Int32.ofNat V.slots.size) fm) hown (wks W (staticW "java/lang/StringLatin1" 9 JO.Str_checkIndex.yN)) (wk W JO.Str_checkIndex.tab) (W := 0) (Nat.le_of_ble_eq_true rfl) (Nat.le_of_ble_eq_true rfl) (Nat.le_refl _) (Nat.le_refl _) (g := (mkF m 3 #[.val (.ref t), .val (.int (Int32.ofNat i))] [.int (Int32.ofNat V.slots.size), .int (Int32.ofNat i)])) rfl (by rw [hml]; rfl) c2 (argsL := [.int (Int32.ofNat i), .int (Int32.ofNat V.slots.size)]) (rest := []) rfl rfl (by show 2 * 0 + 0 ≤ _; decide) (hb hbytes d3) (⟨rfl, rf, s1.there X0.warmed.alike hh0, Int32.ofNat_not_neg (by omega), lt32 v31 hi⟩)
  obtain ⟨rfl, q3⟩ := E3
  have hh3 := q3.trans hh0
  have c4 : Steps p.tables e below (s₁.setTop (entryFrame m #[.ref t, .int (Int32.ofNat i)] 2)) (T3.setTop (mkF m 14 #[.val (.ref t), .val (.int (Int32.ofNat i))] [.int (chr8 u)])) := Steps.trans g3 (by
    refine XS.aloadN X3.here hexec rfl (hb hbytes d6) rfl rfl ?_
    refine XS.iloadN X3.here hexec rfl (hb hbytes d7) rfl ?_
    refine X3.aget hexec (hV.mv X3.warmed.alike hh3) rfl hu rfl rfl (hb hbytes d8) ?_
    refine sipushV X3.here hexec rfl 255 (hb hbytes d9) (by decide) ?_
    refine XS.iand X3.here hexec rfl (hb hbytes d12) rfl ?_
    refine i2c X3.here hexec rfl (hb hbytes d13) rfl ?_
    exact Steps.refl _)
  exact ⟨T3, some (.int (chr8 u)), _, _, _, X3, rfl, rfl, rfl, (fun h => by cases h), ⟨rfl, hh3⟩, fun fs hl => c4.trans (X3.ireturnOut hexec hret (narrow_c _) (Or.inr (Or.inr (Or.inr (Or.inl rfl)))) (hb hbytes d14) hl)⟩
end LChA
end StrChars
namespace StrChars.Road
open Jvm Sem ClassFile Op Lib Jvm.Stand Jvm.Free Jvm.Free.XT
open Jvm.Lib.Cold (StaticIs)
theorem consq {a : Array Value} {s : State} {c : Jvm.Cond} {L : List Jvm.Cond} (h0 : c.before a s = true) (h : ∀ w ∈ L, w.before a s = true) : ∀ w ∈ c :: L, w.before a s = true := fun w hw => (List.mem_cons.mp hw).elim (fun e => e ▸ h0) (h w)
/-- the words of String.length(), either coding -/
abbrev wordsLen : List Jvm.Cond := [.code Len.yN Len.yB 1 (some .int), .initialized ST, .fieldLink ST 9 ST "value" "[B", .fieldLink ST 38 ST "COMPACT_STRINGS" "Z", .fieldLink ST 15 ST "coder" "B", .code Cdr.yN Cdr.yB 1 (some .byte), .methodLink ST 335 Cdr.yN, .declares Cdr.yN, .selects ST Cdr.yN Cdr.yN, .instanceMethod Cdr.yN]
theorem tabLen_of {a : Array Value} {s : State} (h : ∀ w ∈ wordsLen, w.before a s = true) : Len.tab.before a s = true := by
  have hc : Cdr.tab.before a s = true := unparts (wk h (.code Cdr.yN Cdr.yB 1 (some .byte))) (wks h (.initialized Cdr.yN.cls :: Cdr.site))
  have q := consq hc h
  exact unparts (wk q (.code Len.yN Len.yB 1 (some .int))) (wks q (.initialized Len.yN.cls :: Len.site))
theorem movedLen {Z s : State} {a0 args : Array Value} (hZ : Z.Warmed39 s.vm) (hw : ∀ d ∈ wordsLen, d.before a0 Z = true) : ∀ d ∈ wordsLen, d.before args s = true := fun d hd => by
  have q := hw d hd
  have t : ∀ d ∈ wordsLen, d = .arrayClass .byte ∨ (d.onTables && d.keepsFace) = true := by decide +kernel
  rcases t d hd with rfl | t
  · exact RoadKit.mvA hZ q
  · exact RoadKit.mv hZ q t
/-- the bytes of the chars cs, low before high -/
def wideBytes : List Int32 → List Value
  | [] => []
  | c :: cs => .int (lo8 c) :: .int (hi8 c) :: wideBytes cs
theorem wide_lo (d : Value) : ∀ (cs : List Int32) (j : Nat), j < cs.length → (wideBytes cs).getD (2 * j) d = .int (lo8 (cs.getD j 0))
  | [], j, h => absurd h (Nat.not_lt_zero j)
  | c :: cs, 0, _ => rfl
  | c :: cs, j + 1, h => by
    have q := wide_lo d cs j (by simpa using h)
    rw [show 2 * (j + 1) = 2 * j + 1 + 1 from by omega]
    simpa [wideBytes] using q
theorem wide_hi (d : Value) : ∀ (cs : List Int32) (j : Nat), j < cs.length → (wideBytes cs).getD (2 * j + 1) d = .int (hi8 (cs.getD j 0))
  | [], j, h => absurd h (Nat.not_lt_zero j)
  | c :: cs, 0, _ => rfl
  | c :: cs, j + 1, h => by
    have q := wide_hi d cs j (by simpa using h)
    rw [show 2 * (j + 1) + 1 = 2 * j + 1 + 1 + 1 from by omega]
    simpa [wideBytes] using q
theorem low_at (d : Value) (cs : List Int32) (j : Nat) (h : j < cs.length) : (cs.map fun c => Value.int (lo8 c)).getD j d = .int (lo8 (cs.getD j 0)) := by
  simp [List.getD_eq_getElem?_getD, h]
/-- an array of N2 bytes vs codes the chars cs by the coder cd -/
def CodA (cs : List Int32) (cd N2 : Int32) (vs : List Value) : Prop := (cd = 0 ∧ N2 = Int32.ofNat cs.length ∧ vs = (cs.map fun c => Value.int (lo8 c)) ∧ ∀ c ∈ cs, ¬ 255 < c) ∨ (cd = 1 ∧ N2 = Int32.ofNat (2 * cs.length) ∧ vs = wideBytes cs ∧ ∃ c ∈ cs, 255 < c)
theorem CodA.cod {cs : List Int32} {cd N2 : Int32} {vs : List Value} {V : Cell} (h : CodA cs cd N2 vs) (hn : 2 * cs.length < 2 ^ 31) (hs : V.slots.size = N2.toNatClampNeg) (hv : RoadKit.Has V vs (.int 0)) : Cod cd cs.length (fun j => cs.getD j 0) V := by
  rcases h with ⟨rfl, rfl, rfl, h⟩ | ⟨rfl, rfl, rfl, c, hc, hw⟩
  · rw [n32 (by omega)] at hs
    exact Or.inl ⟨rfl, hs, fun j hj => ⟨by rw [hv j (by omega), low_at _ _ _ hj], by
      have e : cs.getD j 0 = cs[j] := by simp [List.getD_eq_getElem?_getD, hj]
      show ¬ 255 < cs.getD j 0
      rw [e]; exact h _ (List.getElem_mem _)⟩⟩
  · rw [n32 (by omega)] at hs
    obtain ⟨j, hj, rfl⟩ := List.getElem_of_mem hc
    exact Or.inr ⟨rfl, hs, fun j hj => ⟨by rw [hv _ (by omega), wide_lo _ _ _ hj], by rw [hv _ (by omega), wide_hi _ _ _ hj]⟩, j, hj, by
      have e : cs.getD j 0 = cs[j] := by simp [List.getD_eq_getElem?_getD, hj]
      show 255 < cs.getD j 0
      rw [e]; exact hw⟩
/-- an object of exactly java/lang/String, its two fields found: as the laws ask it -/
theorem strObj {Z U : State} {a0 : Array Value} {kI : Nat} (wi : (Jvm.Cond.instantiable ST kI).before a0 Z = true) (al : Z.vm.Alike U.vm) {x : Addr} {v0 c0 : Value} (E : RoadKit.Exa Z U.heap x ST) (V : RoadKit.Fld Z U.heap x ST "value" "[B" v0) (C : RoadKit.Fld Z U.heap x ST "coder" "B" c0) :
    ∃ (D : Cell) (fV fC : Field), Blank ST x D U ∧ Found ST "value" "[B" fV U ∧ Found ST "coder" "B" fC U ∧ D.slots[fV.slot]? = some v0 ∧ D.slots[fC.slot]? = some c0 ∧ RoadKit.slotOf Z ST "value" "[B" = fV.slot ∧ RoadKit.slotOf Z ST "coder" "B" = fC.slot := by
  obtain ⟨D, cfV, kV, iV, fV, hD, gV, stV, knV, obV, asV, slV⟩ := V
  obtain ⟨D', cfC, kC, iC, fC, hD', gC, stC, -, -, asC, slC⟩ := C
  cases hD.symm.trans hD'
  obtain ⟨D2, kD, e1, e2, e3, e4, e5⟩ := E
  cases hD.symm.trans e1
  obtain ⟨c2, k2, i1, i2, i3, -⟩ := Cond.instantiable_spec wi
  cases e2.symm.trans i1
  cases e3.symm.trans i2
  obtain ⟨kU, u1, u2⟩ := al.2.2 _ _ e3
  exact ⟨D, fV, fC, ⟨hD, ⟨knV, fun q hq => by rw [hq] at obV; cases obV⟩, by rw [al.findClass]; exact e2, kU, u1, by rw [u2]; exact i3, by rw [u2]; exact e5 i3⟩, ⟨SBG.found_only al ⟨cfV, kV, iV, gV⟩, stV⟩, ⟨SBG.found_only al ⟨cfC, kC, iC, gC⟩, stC⟩, slV, slC, by simp [RoadKit.slotOf, gV], by simp [RoadKit.slotOf, gC]⟩
theorem sta_is {Z U : State} (al : Z.vm.Alike U.vm) {C n d : String} {v : Value} (S : RoadKit.Sta Z U.heap C n d v) : StaticIs U C n d v := by
  obtain ⟨cfS, iS, kS, fS, st, cS, t1, t2, t3, t4, t5, t6, t7⟩ := S
  exact StaticIs.there (s := { Z with heap := U.heap }) ⟨cfS, iS, kS, fS, st, cS, t1, t2, t3, t4, t5, (fun q => by rw [q] at t6; cases t6), t7⟩ al rfl
/-- **length() OF SUCH A STRING** -/
theorem lenW {p : Program} {l : Launch} {e : Env} {R : Room} {s : State} {args : Array Value} {below : List Frame} {len W : Nat} {Z : State} {a0 : Array Value} {h : Heap} (hZ : Z.Warmed39 s.vm) (hw : ∀ d ∈ wordsLen, d.before a0 Z = true) {kI : Nat} (wi : (Jvm.Cond.instantiable ST kI).before a0 Z = true)
    {x t : Addr} {kb : ClassId} {cs : List Int32} {cd N2 z : Int32} {vs : List Value} (E : RoadKit.Exa Z h x ST) (V : RoadKit.Fld Z h x ST "value" "[B" (.ref t)) (C : RoadKit.Fld Z h x ST "coder" "B" (.int cd)) (K : RoadKit.Arv Z h t kb .byte N2 vs (.int 0)) (hc : CodA cs cd N2 vs) (hb : ∀ c ∈ cs, ¬ c < 0 ∧ ¬ (65535 : Int32) < c)
    (S : RoadKit.Sta Z h ST "COMPACT_STRINGS" "Z" (.int z)) (hz : ¬ z = 0) (l2 : cs.length ≤ 4000) (hfr : 2 ≤ R.frames) (hlo : W + 25 ≤ R.locals) :
    Back l R p e below s args (⟨"java/lang/String", "length", "()I"⟩ : MethodName) len W (fun P a => a = #[.ref x] ∧ P.U.heap = h ∧ P.cells + 0 ≤ R.cells ∧ P.slots + 0 ≤ R.slots)
      (fun P _ v B => ∃ L, (v = some (.int (Int32.ofNat cs.length)) ∧ L = [] ∧ B.U.heap = h) ∧ B.locs = P.locs ++ L ∧ B.cells = P.cells + 0 ∧ B.slots = P.slots + 0) := by
  obtain ⟨A, K1, K2, K3, K4, K5, K6⟩ := K
  have hcod := hc.cod (by omega) K3 K5
  intro m meth c P g ig mk a X hg hsize hdg hW hn hp'
  obtain ⟨rfl, rfl, r1, r2⟩ := hp'
  have al : Z.vm.Alike P.U.vm := hZ.alike.trans X.warmed.alike
  obtain ⟨D, fV, fC, hB, F1, F2, g1, g2, -, -⟩ := strObj wi al E V C
  have hx : Txt x t A cd cs.length (fun j => cs.getD j 0) P.U := ⟨⟨_, hB.2.2.1, D, hB.1, rfl, by cases q : D.vm <;> first | rfl | exact absurd q (hB.2.1.2 _)⟩, Has.of hB F1 g1, Has.of hB F2 g2, ⟨K1.1, State.isArrayOf_alike al K1.2.1, K1.2.2, by rcases hcod with ⟨-, q, -⟩ | ⟨-, q, -⟩ <;> omega⟩, hcod, fun j hj => by
    have e : cs.getD j 0 = cs[j] := by simp [List.getD_eq_getElem?_getD, hj]
    show ¬ cs.getD j 0 < 0 ∧ ¬ 65535 < cs.getD j 0
    rw [e]; exact hb _ (List.getElem_mem _)⟩
  obtain ⟨v, B, X', ⟨⟨hv, hh⟩, hl, hk, hs⟩, st⟩ := Len.pays x t A cd cs.length (fun j => cs.getD j 0) z (tabLen_of (movedLen hZ hw)) hfr hlo m meth c P g ig mk _ X hg hsize hdg hW hn ⟨r1, r2, rfl, hx, sta_is al S, hz⟩
  exact ⟨v, B, X', ⟨[], ⟨hv, rfl, hh⟩, hl, hk, hs⟩, st⟩
end StrChars.Road
namespace StrChars
open Jvm Sem ClassFile Op Lib Jvm.Stand Jvm.Free.XT Jvm.Free.ALB Jvm.Free.JM Jvm.Free
open Jvm.Lib.Cold (StaticIs)
namespace Emp
def yN : MethodName := ⟨"java/lang/String", "isEmpty", "()Z"⟩
abbrev yB : ByteArray := jdk_42_method_55_code
theorem d0 : decode yB 0 = .ok (.aload_n 0, 1) := by decide +kernel
theorem d1 : decode yB 1 = .ok (.getfield 9, 3) := by decide +kernel
theorem d4 : decode yB 4 = .ok (.arraylength, 1) := by decide +kernel
theorem d5 : decode yB 5 = .ok (.ifCond (.ne) 7, 3) := by decide +kernel
theorem d8 : decode yB 8 = .ok (.iconst 1, 1) := by decide +kernel
theorem d9 : decode yB 9 = .ok (.goto 4, 3) := by decide +kernel
theorem d12 : decode yB 12 = .ok (.iconst 0, 1) := by decide +kernel
theorem d13 : decode yB 13 = .ok (.ireturn, 1) := by decide +kernel
def site : List Cond := [.fieldLink "java/lang/String" 9 "java/lang/String" "value" "[B"]
def tab : Cond := tabOf yN yB 1 (some .boolean) site
def P (x t : Addr) (V : Cell) (cd : Int32) (n : Nat) (f : Nat → Int32) (args : Array Value) (s : State) : Prop := args = #[.ref x] ∧ Txt x t V cd n f s
def E (n : Nat) (r : Option Value) (s u : State) : Prop := XT.PureE (some (.int (if n = 0 then 1 else 0))) r s u
/-- isEmpty() of a String of n chars -/
theorem law (l : Launch) (x t : Addr) (V : Cell) (cd : Int32) (n : Nat) (f : Nat → Int32) : Law l yN 1 0 0 0 yB 1 (some .boolean) site (P x t V cd n f) (E n) [] 0 0 := by
  refine Law.of_walk (plainFor_of_name (by decide +kernel)) (by decide +kernel) (by decide +kernel) (by decide) (fun _ _ h => by rw [h.1]; rfl) (fun _ U U' hal hh h => ⟨h.1, h.2.mv hal hh⟩) (fun r U U' V V' h1 hal h2 h => XT.PureE.mv r U U' V V' h1 hal h2 h) ?_
  intro p e s m args below meth c s₁ X0 hexec hbytes hml hret hlk hnm hown hh0 W hP
  obtain ⟨rfl, hx⟩ := hP
  have v31 := hx.2.2.2.1.2.2.2
  have c1 : Steps p.tables e below (s₁.setTop (entryFrame m #[.ref x] 1)) (s₁.setTop (mkF m 1 #[.val (.ref x)] [.ref x])) := Steps.trans (entry rfl) (by
    show Steps p.tables e below (s₁.setTop (mkF m 0 #[.val (.ref x)] [])) _
    refine XS.aloadN X0.here hexec rfl (hb hbytes d0) rfl rfl ?_
    exact Steps.refl _)
  obtain ⟨T2, X2, q2, st2⟩ := X0.hget hexec hown (wk W (.fieldLink "java/lang/String" 9 "java/lang/String" "value" "[B")) (hx.mv X0.warmed.alike hh0).2.1 (g := (mkF m 1 #[.val (.ref x)] [.ref x])) rfl (rest := []) rfl (hb hbytes d1)
  have hh2 := q2.trans hh0
  have hx2 := hx.mv X2.warmed.alike hh2
  have c3 : Steps p.tables e below (s₁.setTop (entryFrame m #[.ref x] 1)) (T2.setTop (mkF m 5 #[.val (.ref x)] [.int (Int32.ofNat V.slots.size)])) := (c1.trans (st2 _ (Steps.refl _))).trans (by
    refine X2.alen hexec hx2.2.2.2.1 rfl rfl (hb hbytes d4) ?_
    exact Steps.refl _)
  have hz : V.slots.size = 0 ↔ n = 0 := by
    rcases hx.2.2.2.2.1 with ⟨-, q, -⟩ | ⟨-, q, -⟩ <;> omega
  by_cases h0 : n = 0
  · have c4 : Steps p.tables e below (s₁.setTop (entryFrame m #[.ref x] 1)) (T2.setTop (mkF m 13 #[.val (.ref x)] [.int 1])) := c3.trans (by
      refine XS.ifNo X2.here hexec rfl (hb hbytes d5) rfl (i0_ne_f (by rw [hz.mpr h0]; rfl)) ?_
      refine iconstV X2.here hexec rfl 1 (hb hbytes d8) (by decide) ?_
      refine XS.goto X2.here hexec rfl (pc0 := 9) rfl (hb hbytes d9) (by decide) rfl ?_
      exact Steps.refl _)
    exact ⟨T2, some (.int 1), _, _, _, X2, rfl, rfl, rfl, (fun h => by cases h), ⟨by rw [if_pos h0], hh2⟩, fun fs hl => c4.trans (X2.ireturnOut hexec hret rfl (Or.inr (Or.inl rfl)) (hb hbytes d13) hl)⟩
  · have c4 : Steps p.tables e below (s₁.setTop (entryFrame m #[.ref x] 1)) (T2.setTop (mkF m 13 #[.val (.ref x)] [.int 0])) := c3.trans (by
      refine XS.ifYes X2.here hexec rfl (pc0 := 5) rfl (hb hbytes d5) rfl (i0_ne_t (nz32 v31 (by omega))) (by decide) rfl ?_
      refine iconstV X2.here hexec rfl 0 (hb hbytes d12) (by decide) ?_
      exact Steps.refl _)
    exact ⟨T2, some (.int 0), _, _, _, X2, rfl, rfl, rfl, (fun h => by cases h), ⟨by rw [if_neg h0], hh2⟩, fun fs hl => c4.trans (X2.ireturnOut hexec hret rfl (Or.inr (Or.inl rfl)) (hb hbytes d13) hl)⟩
theorem pays {l : Launch} {R : Room} {p : Program} {e : Env} {below : List Frame} {s : State} {sargs : Array Value} {len W : Nat} (x t : Addr) (V : Cell) (cd : Int32) (n : Nat) (f : Nat → Int32) (htab : tab.before sargs s = true) (hfr : 1 ≤ R.frames) (hlo : W + 12 ≤ R.locals) :
    Back l R p e below s sargs yN len W (fun A₁ a₁ => A₁.cells + 0 ≤ R.cells ∧ A₁.slots + 0 ≤ R.slots ∧ P x t V cd n f a₁ A₁.U) (fun A₁ _ v₁ B₁ => E n v₁ A₁.U B₁.U ∧ B₁.locs = A₁.locs ++ [] ∧ B₁.cells = A₁.cells + 0 ∧ B₁.slots = A₁.slots + 0) :=
  (law l x t V cd n f).pays htab hfr (by omega)
end Emp
end StrChars
namespace StrChars.Road
open Jvm Sem ClassFile Op Lib Jvm.Stand Jvm.Free Jvm.Free.XT
open Jvm.Lib.Cold (StaticIs)
/-- the words of String.isEmpty() -/
abbrev wordsEmp : List Jvm.Cond := [.code Emp.yN Emp.yB 1 (some .boolean), .initialized ST, .fieldLink ST 9 ST "value" "[B"]
theorem tabEmp_of {a : Array Value} {s : State} (h : ∀ w ∈ wordsEmp, w.before a s = true) : Emp.tab.before a s = true := unparts (wk h (.code Emp.yN Emp.yB 1 (some .boolean))) (wks h (.initialized Emp.yN.cls :: Emp.site))
theorem movedEmp {Z s : State} {a0 args : Array Value} (hZ : Z.Warmed39 s.vm) (hw : ∀ d ∈ wordsEmp, d.before a0 Z = true) : ∀ d ∈ wordsEmp, d.before args s = true := fun d hd => by
  have t : ∀ d ∈ wordsEmp, (d.onTables && d.keepsFace) = true := by decide +kernel
  exact RoadKit.mv hZ (hw d hd) (t d hd)
/-- the road's facts of a String, as the laws ask it -/
theorem txt_of {Z U : State} {a0 : Array Value} {kI : Nat} (wi : (Jvm.Cond.instantiable ST kI).before a0 Z = true) (al : Z.vm.Alike U.vm) {x t : Addr} {kb : ClassId} {cs : List Int32} {cd N2 : Int32} {vs : List Value} (E : RoadKit.Exa Z U.heap x ST) (V : RoadKit.Fld Z U.heap x ST "value" "[B" (.ref t)) (C : RoadKit.Fld Z U.heap x ST "coder" "B" (.int cd)) (K : RoadKit.Arv Z U.heap t kb .byte N2 vs (.int 0)) (hc : CodA cs cd N2 vs) (hb : ∀ c ∈ cs, ¬ c < 0 ∧ ¬ (65535 : Int32) < c) (l2 : cs.length ≤ 4000) :
    ∃ A, Txt x t A cd cs.length (fun j => cs.getD j 0) U := by
  obtain ⟨A, K1, K2, K3, K4, K5, K6⟩ := K
  have hcod := hc.cod (by omega) K3 K5
  obtain ⟨D, fV, fC, hB, F1, F2, g1, g2, -, -⟩ := strObj wi al E V C
  exact ⟨A, ⟨_, hB.2.2.1, D, hB.1, rfl, by cases q : D.vm <;> first | rfl | exact absurd q (hB.2.1.2 _)⟩, Has.of hB F1 g1, Has.of hB F2 g2, ⟨K1.1, State.isArrayOf_alike al K1.2.1, K1.2.2, by rcases hcod with ⟨-, q, -⟩ | ⟨-, q, -⟩ <;> omega⟩, hcod, fun j hj => by
    have e : cs.getD j 0 = cs[j] := by simp [List.getD_eq_getElem?_getD, hj]
    show ¬ cs.getD j 0 < 0 ∧ ¬ 65535 < cs.getD j 0
    rw [e]; exact hb _ (List.getElem_mem _)⟩
/-- **isEmpty() OF SUCH A STRING** -/
theorem empW {p : Program} {l : Launch} {e : Env} {R : Room} {s : State} {args : Array Value} {below : List Frame} {len W : Nat} {Z : State} {a0 : Array Value} {h : Heap} (hZ : Z.Warmed39 s.vm) (hw : ∀ d ∈ wordsEmp, d.before a0 Z = true) {kI : Nat} (wi : (Jvm.Cond.instantiable ST kI).before a0 Z = true)
    {x t : Addr} {kb : ClassId} {cs : List Int32} {cd N2 : Int32} {vs : List Value} (E : RoadKit.Exa Z h x ST) (V : RoadKit.Fld Z h x ST "value" "[B" (.ref t)) (C : RoadKit.Fld Z h x ST "coder" "B" (.int cd)) (K : RoadKit.Arv Z h t kb .byte N2 vs (.int 0)) (hc : CodA cs cd N2 vs) (hb : ∀ c ∈ cs, ¬ c < 0 ∧ ¬ (65535 : Int32) < c) (l2 : cs.length ≤ 4000) (hfr : 1 ≤ R.frames) (hlo : W + 12 ≤ R.locals) :
    Back l R p e below s args (⟨"java/lang/String", "isEmpty", "()Z"⟩ : MethodName) len W (fun P a => a = #[.ref x] ∧ P.U.heap = h ∧ P.cells + 0 ≤ R.cells ∧ P.slots + 0 ≤ R.slots)
      (fun P _ v B => ∃ L, (v = some (.int (if cs.length = 0 then 1 else 0)) ∧ L = [] ∧ B.U.heap = h) ∧ B.locs = P.locs ++ L ∧ B.cells = P.cells + 0 ∧ B.slots = P.slots + 0) := by
  intro m meth c P g ig mk a X hg hsize hdg hW hn hp'
  obtain ⟨rfl, rfl, r1, r2⟩ := hp'
  have al : Z.vm.Alike P.U.vm := hZ.alike.trans X.warmed.alike
  obtain ⟨A, hx⟩ := txt_of wi al E V C K hc hb l2
  obtain ⟨v, B, X', ⟨⟨hv, hh⟩, hl, hk, hs⟩, st⟩ := Emp.pays x t A cd cs.length (fun j => cs.getD j 0) (tabEmp_of (movedEmp hZ hw)) hfr hlo m meth c P g ig mk _ X hg hsize hdg hW hn ⟨r1, r2, rfl, hx⟩
  exact ⟨v, B, X', ⟨[], ⟨hv, rfl, hh⟩, hl, hk, hs⟩, st⟩
end StrChars.Road
namespace StrChars
open Jvm Sem ClassFile Op Lib Jvm.Stand Jvm.Free.XT Jvm.Free.ALB Jvm.Free.JM Jvm.Free
open Jvm.Lib.Cold (StaticIs)
namespace ChN
def yN : MethodName := ⟨"java/lang/String", "charAt", "(I)C"⟩
abbrev yB : ByteArray := jdk_42_method_56_code
theorem d0 : decode yB 0 = .ok (.aload_n 0, 1) := by decide +kernel
theorem d1 : decode yB 1 = .ok (.invokevirtual 492, 3) := by decide +kernel
theorem d4 : decode yB 4 = .ok (.ifCond (.eq) 12, 3) := by decide +kernel
theorem d7 : decode yB 7 = .ok (.aload_n 0, 1) := by decide +kernel
theorem d8 : decode yB 8 = .ok (.getfield 9, 3) := by decide +kernel
theorem d11 : decode yB 11 = .ok (.iload_n 1, 1) := by decide +kernel
theorem d12 : decode yB 12 = .ok (.invokestatic 495, 3) := by decide +kernel
theorem d15 : decode yB 15 = .ok (.ireturn, 1) := by decide +kernel
def site : List Cond := [.fieldLink "java/lang/String" 9 "java/lang/String" "value" "[B", IsL.tab, LChA.tab] ++ virtW "java/lang/String" 492 "java/lang/String" IsL.yN IsL.yN ++ staticW "java/lang/String" 495 LChA.yN
def tab : Cond := tabOf yN yB 2 (some .char) site
def P (x t : Addr) (V : Cell) (n : Nat) (f : Nat → Int32) (z : Int32) (fm : Value) (i : Nat) (args : Array Value) (s : State) : Prop := args = #[.ref x, .int (Int32.ofNat i)] ∧ Txt x t V 0 n f s ∧ i < n ∧ StaticIs s "java/lang/String" "COMPACT_STRINGS" "Z" (.int z) ∧ ¬ z = 0 ∧ StaticIs s "jdk/internal/util/Preconditions" "SIOOBE_FORMATTER" "Ljava/util/function/BiFunction;" fm ∧ fm.isRef = true
def E (f : Nat → Int32) (i : Nat) (r : Option Value) (s u : State) : Prop := XT.PureE (some (.int (f i))) r s u
/-- charAt(i) of a Latin-1 String of n chars, i < n: f i -/
theorem law (l : Launch) (x t : Addr) (V : Cell) (n : Nat) (f : Nat → Int32) (z : Int32) (fm : Value) (i : Nat) : Law l yN 2 1 3 40 yB 2 (some .char) site (P x t V n f z fm i) (E f i) [] 0 0 := by
  refine Law.of_walk (plainFor_of_name (by decide +kernel)) (by decide +kernel) (by decide +kernel) (by decide) (fun _ _ h => by rw [h.1]; rfl) (fun _ U U' hal hh h => ⟨h.1, h.2.1.mv hal hh, h.2.2.1, h.2.2.2.1.there hal hh, h.2.2.2.2.1, h.2.2.2.2.2.1.there hal hh, h.2.2.2.2.2.2⟩) (fun r U U' V V' h1 hal h2 h => XT.PureE.mv r U U' V V' h1 hal h2 h) ?_
  intro p e s m args below meth c s₁ X0 hexec hbytes hml hret hlk hnm hown hh0 W hP
  obtain ⟨rfl, hx, hi, s1, hz, s3, rf⟩ := hP
  have v31 := hx.2.2.2.1.2.2.2
  have hr := hx.2.2.2.2.2 i hi
  have hx0 := hx.mv X0.warmed.alike hh0
  have c1 : Steps p.tables e below (s₁.setTop (entryFrame m #[.ref x, .int (Int32.ofNat i)] 2)) (s₁.setTop (mkF m 1 #[.val (.ref x), .val (.int (Int32.ofNat i))] [.ref x])) := Steps.trans (entry rfl) (by
    show Steps p.tables e below (s₁.setTop (mkF m 0 #[.val (.ref x), .val (.int (Int32.ofNat i))] [])) _
    refine XS.aloadN X0.here hexec rfl (hb hbytes d0) rfl rfl ?_
    exact Steps.refl _)
  obtain ⟨v2, T2, X2, E2, g2⟩ := X0.callV hexec (IsL.law l x 0 z) hown (wks W (virtW "java/lang/String" 492 "java/lang/String" IsL.yN IsL.yN)) rfl (by decide) (wk W IsL.tab) (W := 0) (Nat.le_of_ble_eq_true rfl) (Nat.le_of_ble_eq_true rfl) (Nat.le_refl _) (Nat.le_refl _) (hx0.1.fc X0.warmed.alike) hx0.1.is (g := (mkF m 1 #[.val (.ref x), .val (.int (Int32.ofNat i))] [.ref x])) rfl (by rw [hml]; rfl) c1 (argsL := []) (rest := []) rfl rfl (by show 2 * 0 + 0 ≤ _; decide) (hb hbytes d1) (⟨rfl, hx0.2.2.1, hx.2.2.2.2.1.cd, s1.there X0.warmed.alike hh0, hz⟩)
  obtain ⟨rfl, q2⟩ := E2
  have hh2 := q2.trans hh0
  have hx2 := hx.mv X2.warmed.alike hh2
  obtain ⟨-, k1, k2⟩ | ⟨k0, -⟩ := hx.2.2.2.2.1
  · have c3 : Steps p.tables e below (s₁.setTop (entryFrame m #[.ref x, .int (Int32.ofNat i)] 2)) (T2.setTop (mkF m 8 #[.val (.ref x), .val (.int (Int32.ofNat i))] [.ref x])) := Steps.trans g2 (by
      refine XS.ifNo X2.here hexec rfl (hb hbytes d4) rfl (i0_eq_f (by decide)) ?_
      refine XS.aloadN X2.here hexec rfl (hb hbytes d7) rfl rfl ?_
      exact Steps.refl _)
    obtain ⟨T4, X4, q4, st4⟩ := X2.hget hexec hown (wk W (.fieldLink "java/lang/String" 9 "java/lang/String" "value" "[B")) hx2.2.1 (g := (mkF m 8 #[.val (.ref x), .val (.int (Int32.ofNat i))] [.ref x])) rfl (rest := []) rfl (hb hbytes d8)
    have hh4 := q4.trans hh2
    have c5 : Steps p.tables e below (s₁.setTop (entryFrame m #[.ref x, .int (Int32.ofNat i)] 2)) (T4.setTop (mkF m 12 #[.val (.ref x), .val (.int (Int32.ofNat i))] [.int (Int32.ofNat i), .ref t])) := (c3.trans (st4 _ (Steps.refl _))).trans (by
      refine XS.iloadN X4.here hexec rfl (hb hbytes d11) rfl ?_
      exact Steps.refl _)
    obtain ⟨v6, T6, X6, E6, g6⟩ := X4.callS hexec (LChA.law l t V i (lo8 (f i)) fm) hown (wks W (staticW "java/lang/String" 495 LChA.yN)) (wk W LChA.tab) (W := 0) (Nat.le_of_ble_eq_true rfl) (Nat.le_of_ble_eq_true rfl) (Nat.le_refl _) (Nat.le_refl _) (g := (mkF m 12 #[.val (.ref x), .val (.int (Int32.ofNat i))] [.int (Int32.ofNat i), .ref t])) rfl (by rw [hml]; rfl) c5 (argsL := [.ref t, .int (Int32.ofNat i)]) (rest := []) rfl rfl (by show 2 * 0 + 0 ≤ _; decide) (hb hbytes d12) (⟨rfl, hx.2.2.2.1.mv X4.warmed.alike hh4, (k2 i hi).1, s3.there X4.warmed.alike hh4, rf⟩)
    obtain ⟨rfl, q6⟩ := E6
    rw [chr8_lo8 hr.1 (k2 i hi).2] at g6
    exact ⟨T6, some (.int (f i)), _, _, _, X6, rfl, rfl, rfl, (fun h => by cases h), ⟨rfl, q6.trans hh4⟩, fun fs hl => Steps.trans g6 (X6.ireturnOut hexec hret (narrow_ch hr.1 hr.2) (Or.inr (Or.inr (Or.inr (Or.inl rfl)))) (hb hbytes d15) hl)⟩
  · exact absurd k0 (by decide)
theorem pays {l : Launch} {R : Room} {p : Program} {e : Env} {below : List Frame} {s : State} {sargs : Array Value} {len W : Nat} (x t : Addr) (V : Cell) (n : Nat) (f : Nat → Int32) (z : Int32) (fm : Value) (i : Nat) (htab : tab.before sargs s = true) (hfr : 4 ≤ R.frames) (hlo : W + 53 ≤ R.locals) :
    Back l R p e below s sargs yN len W (fun A₁ a₁ => A₁.cells + 0 ≤ R.cells ∧ A₁.slots + 0 ≤ R.slots ∧ P x t V n f z fm i a₁ A₁.U) (fun A₁ _ v₁ B₁ => E f i v₁ A₁.U B₁.U ∧ B₁.locs = A₁.locs ++ [] ∧ B₁.cells = A₁.cells + 0 ∧ B₁.slots = A₁.slots + 0) :=
  (law l x t V n f z fm i).pays htab hfr (by omega)
end ChN
end StrChars
namespace StrChars.Road
open Jvm Sem ClassFile Op Lib Jvm.Stand Jvm.Free Jvm.Free.XT
open Jvm.Lib.Cold (StaticIs)
/-- the words of String.charAt(int), the Latin-1 road alone -/
abbrev wordsChN : List Jvm.Cond := [.code ChN.yN ChN.yB 2 (some .char), .initialized ST, .fieldLink ST 9 ST "value" "[B", .fieldLink ST 38 ST "COMPACT_STRINGS" "Z", .fieldLink ST 15 ST "coder" "B", .code IsL.yN IsL.yB 1 (some .boolean), .methodLink ST 492 IsL.yN, .declares IsL.yN, .selects ST IsL.yN IsL.yN, .instanceMethod IsL.yN,
  .methodLink ST 495 LChA.yN, .static LChA.yN, .code LChA.yN LChA.yB 2 (some .char), .initialized "java/lang/StringLatin1", .methodLink "java/lang/StringLatin1" 9 JO.Str_checkIndex.yN, .static JO.Str_checkIndex.yN, .code JO.Str_checkIndex.yN JO.Str_checkIndex.yB 2 none,
  .fieldLink ST 1053 "jdk/internal/util/Preconditions" "SIOOBE_FORMATTER" "Ljava/util/function/BiFunction;", .methodLink ST 1059 JC.PreCheck.yN, .static JC.PreCheck.yN, .code JC.PreCheck.yN JC.PreCheck.yB 3 (some .int), .initialized "jdk/internal/util/Preconditions"]
theorem tabChN_of {a : Array Value} {s : State} (h : ∀ w ∈ wordsChN, w.before a s = true) : ChN.tab.before a s = true := by
  have hp : JC.PreCheck.tab.before a s = true := unparts (wk h (.code JC.PreCheck.yN JC.PreCheck.yB 3 (some .int))) (wks h (.initialized JC.PreCheck.yN.cls :: JC.PreCheck.site))
  have qk := consq hp h
  have hk : JO.Str_checkIndex.tab.before a s = true := unparts (wk qk (.code JO.Str_checkIndex.yN JO.Str_checkIndex.yB 2 none)) (wks qk (.initialized JO.Str_checkIndex.yN.cls :: JO.Str_checkIndex.site))
  have ql := consq hk h
  have hl : LChA.tab.before a s = true := unparts (wk ql (.code LChA.yN LChA.yB 2 (some .char))) (wks ql (.initialized LChA.yN.cls :: LChA.site))
  have hi : IsL.tab.before a s = true := unparts (wk h (.code IsL.yN IsL.yB 1 (some .boolean))) (wks h (.initialized IsL.yN.cls :: IsL.site))
  have q := consq hi (consq hl h)
  exact unparts (wk q (.code ChN.yN ChN.yB 2 (some .char))) (wks q (.initialized ChN.yN.cls :: ChN.site))
theorem movedChN {Z s : State} {a0 args : Array Value} (hZ : Z.Warmed39 s.vm) (hw : ∀ d ∈ wordsChN, d.before a0 Z = true) : ∀ d ∈ wordsChN, d.before args s = true := fun d hd => by
  have t : ∀ d ∈ wordsChN, (d.onTables && d.keepsFace) = true := by decide +kernel
  exact RoadKit.mv hZ (hw d hd) (t d hd)
/-- **charAt(i) OF A LATIN-1 STRING**, i < n: the char -/
theorem chN {p : Program} {l : Launch} {e : Env} {R : Room} {s : State} {args : Array Value} {below : List Frame} {len W : Nat} {Z : State} {a0 : Array Value} {h : Heap} (hZ : Z.Warmed39 s.vm) (hw : ∀ d ∈ wordsChN, d.before a0 Z = true) {kI : Nat} (wi : (Jvm.Cond.instantiable ST kI).before a0 Z = true)
    {x t : Addr} {kb : ClassId} {cs : List Int32} {N2 z : Int32} {vs : List Value} {fm : Value} {i : Nat} {j : Int32} (E : RoadKit.Exa Z h x ST) (V : RoadKit.Fld Z h x ST "value" "[B" (.ref t)) (C : RoadKit.Fld Z h x ST "coder" "B" (.int 0)) (K : RoadKit.Arv Z h t kb .byte N2 vs (.int 0)) (hc : CodA cs 0 N2 vs) (hb : ∀ c ∈ cs, ¬ c < 0 ∧ ¬ (65535 : Int32) < c)
    (S : RoadKit.Sta Z h ST "COMPACT_STRINGS" "Z" (.int z)) (hz : ¬ z = 0) (F : RoadKit.Sta Z h "jdk/internal/util/Preconditions" "SIOOBE_FORMATTER" "Ljava/util/function/BiFunction;" fm) (rf : fm.isRef = true) (l2 : cs.length ≤ 4000) (hi : i < cs.length) (hj : j = Int32.ofNat i) (hfr : 4 ≤ R.frames) (hlo : W + 53 ≤ R.locals) :
    Back l R p e below s args (⟨"java/lang/String", "charAt", "(I)C"⟩ : MethodName) len W (fun P a => a = #[.ref x, .int j] ∧ P.U.heap = h ∧ P.cells + 0 ≤ R.cells ∧ P.slots + 0 ≤ R.slots)
      (fun P _ v B => ∃ L, (v = some (.int (cs.getD i 0)) ∧ L = [] ∧ B.U.heap = h) ∧ B.locs = P.locs ++ L ∧ B.cells = P.cells + 0 ∧ B.slots = P.slots + 0) := by
  subst hj
  intro m meth c P g ig mk a X hg hsize hdg hW hn hp'
  obtain ⟨rfl, rfl, r1, r2⟩ := hp'
  have al : Z.vm.Alike P.U.vm := hZ.alike.trans X.warmed.alike
  obtain ⟨A, hx⟩ := txt_of wi al E V C K hc hb l2
  obtain ⟨v, B, X', ⟨⟨hv, hh⟩, hl, hk, hs⟩, st⟩ := ChN.pays x t A cs.length (fun j => cs.getD j 0) z fm i (tabChN_of (movedChN hZ hw)) hfr hlo m meth c P g ig mk _ X hg hsize hdg hW hn ⟨r1, r2, rfl, hx, hi, sta_is al S, hz, sta_is al F, rf⟩
  exact ⟨v, B, X', ⟨[], ⟨hv, rfl, hh⟩, hl, hk, hs⟩, st⟩
/-- what backV says of its String, as the contracts of this text ask it: cs's low bytes, coder 0 -/
theorem codOf {cs : List Int32} {n : Nat} (hn : cs.length = n) (hb : ∀ c ∈ cs, ¬ 255 < c) : CodA cs 0 (Int32.ofNat n) ((cs.map lo8).map Value.int) := Or.inl ⟨rfl, by rw [hn], by simp [List.map_map, Function.comp_def], hb⟩
end StrChars.Road
end Jvm.Pilot.@@N@@
namespace Jvm.Pilot.@@N@@
open Jvm Jvm.ClassFile Sem Op Lib Jvm.Free Jvm.Stand Jvm.LawKit Jvm.RoadKit Bundle Jvm.Pilot.@@N@@.Jvm.D
/-- from S the run ends, in a state and with an outcome of which P holds -/
def OGo (p : Program) (e : Env) (below : List Frame) (P : State → Outcome → Prop) (S : State) : Prop :=
  ∃ s₂ o, Steps p.tables e below S s₂ ∧ s₂.status = .running ∧ Ended s₂ below o ∧ P s₂ o
theorem OGo.by {p : Program} {e : Env} {below : List Frame} {P : State → Outcome → Prop} {S S' : State} (h : ∀ t, Steps p.tables e below S' t → Steps p.tables e below S t) (g : OGo p e below P S') : OGo p e below P S := by
  obtain ⟨s₂, o, h1, h2⟩ := g; exact ⟨s₂, o, h _ h1, h2⟩
theorem OGo.of {p : Program} {e : Env} {below : List Frame} {P : State → Outcome → Prop} {S S' : State} (h : Steps p.tables e below S S') (g : OGo p e below P S') : OGo p e below P S := by
  obtain ⟨s₂, o, h1, h2⟩ := g; exact ⟨s₂, o, h.trans h1, h2⟩
theorem OGo.ret {p : Program} {e : Env} {below : List Frame} {P : State → Outcome → Prop} {S S' : State} {o : Outcome} (h : Steps p.tables e below S S') (h1 : S'.status = .running) (h2 : Ended S' below o) (h3 : P S' o) : OGo p e below P S := ⟨S', o, h, h1, h2, h3⟩
theorem own_up (cs : List Int32) (h : ∀ c ∈ cs, ¬ c < 0 ∧ ¬ (255 : Int32) < c) : ∀ c ∈ cs, ¬ c < 0 ∧ ¬ (65535 : Int32) < c := fun c hc => ⟨(h c hc).1, fun q => (h c hc).2 (by rw [Int32.lt_iff_toInt_lt] at q ⊢; have e1 : (65535 : Int32).toInt = 65535 := rfl; have e2 : (255 : Int32).toInt = 255 := rfl; omega)⟩
theorem d1_0 : decode method_2_code 0 = .ok (.iload_n 0, 1) := by decide +kernel
theorem d1_1 : decode method_2_code 1 = .ok (.ldc 7, 2) := by decide +kernel
theorem d1_3 : decode method_2_code 3 = .ok (.iand, 1) := by decide +kernel
theorem d1_4 : decode method_2_code 4 = .ok (.bipush 67, 2) := by decide +kernel
theorem d1_6 : decode method_2_code 6 = .ok (.irem, 1) := by decide +kernel
theorem d1_7 : decode method_2_code 7 = .ok (.istore_n 1, 1) := by decide +kernel
theorem d1_8 : decode method_2_code 8 = .ok (.iload_n 1, 1) := by decide +kernel
theorem d1_9 : decode method_2_code 9 = .ok (.bipush 26, 2) := by decide +kernel
theorem d1_11 : decode method_2_code 11 = .ok (.if_icmp .ge 9, 3) := by decide +kernel
theorem d1_14 : decode method_2_code 14 = .ok (.bipush 65, 2) := by decide +kernel
theorem d1_16 : decode method_2_code 16 = .ok (.iload_n 1, 1) := by decide +kernel
theorem d1_17 : decode method_2_code 17 = .ok (.iadd, 1) := by decide +kernel
theorem d1_18 : decode method_2_code 18 = .ok (.i2c, 1) := by decide +kernel
theorem d1_19 : decode method_2_code 19 = .ok (.ireturn, 1) := by decide +kernel
theorem d1_20 : decode method_2_code 20 = .ok (.iload_n 1, 1) := by decide +kernel
theorem d1_21 : decode method_2_code 21 = .ok (.bipush 52, 2) := by decide +kernel
theorem d1_23 : decode method_2_code 23 = .ok (.if_icmp .ge 12, 3) := by decide +kernel
theorem d1_26 : decode method_2_code 26 = .ok (.bipush 97, 2) := by decide +kernel
theorem d1_28 : decode method_2_code 28 = .ok (.iload_n 1, 1) := by decide +kernel
theorem d1_29 : decode method_2_code 29 = .ok (.bipush 26, 2) := by decide +kernel
theorem d1_31 : decode method_2_code 31 = .ok (.isub, 1) := by decide +kernel
theorem d1_32 : decode method_2_code 32 = .ok (.iadd, 1) := by decide +kernel
theorem d1_33 : decode method_2_code 33 = .ok (.i2c, 1) := by decide +kernel
theorem d1_34 : decode method_2_code 34 = .ok (.ireturn, 1) := by decide +kernel
theorem d1_35 : decode method_2_code 35 = .ok (.iload_n 1, 1) := by decide +kernel
theorem d1_36 : decode method_2_code 36 = .ok (.bipush 62, 2) := by decide +kernel
theorem d1_38 : decode method_2_code 38 = .ok (.if_icmp .ge 12, 3) := by decide +kernel
theorem d1_41 : decode method_2_code 41 = .ok (.bipush 48, 2) := by decide +kernel
theorem d1_43 : decode method_2_code 43 = .ok (.iload_n 1, 1) := by decide +kernel
theorem d1_44 : decode method_2_code 44 = .ok (.bipush 52, 2) := by decide +kernel
theorem d1_46 : decode method_2_code 46 = .ok (.isub, 1) := by decide +kernel
theorem d1_47 : decode method_2_code 47 = .ok (.iadd, 1) := by decide +kernel
theorem d1_48 : decode method_2_code 48 = .ok (.i2c, 1) := by decide +kernel
theorem d1_49 : decode method_2_code 49 = .ok (.ireturn, 1) := by decide +kernel
theorem d1_50 : decode method_2_code 50 = .ok (.iload_n 1, 1) := by decide +kernel
theorem d1_51 : decode method_2_code 51 = .ok (.bipush 62, 2) := by decide +kernel
theorem d1_53 : decode method_2_code 53 = .ok (.if_icmp .ne 6, 3) := by decide +kernel
theorem d1_56 : decode method_2_code 56 = .ok (.bipush 46, 2) := by decide +kernel
theorem d1_58 : decode method_2_code 58 = .ok (.ireturn, 1) := by decide +kernel
theorem d1_59 : decode method_2_code 59 = .ok (.iload_n 1, 1) := by decide +kernel
theorem d1_60 : decode method_2_code 60 = .ok (.bipush 63, 2) := by decide +kernel
theorem d1_62 : decode method_2_code 62 = .ok (.if_icmp .ne 6, 3) := by decide +kernel
theorem d1_65 : decode method_2_code 65 = .ok (.bipush 95, 2) := by decide +kernel
theorem d1_67 : decode method_2_code 67 = .ok (.ireturn, 1) := by decide +kernel
theorem d1_68 : decode method_2_code 68 = .ok (.iload_n 1, 1) := by decide +kernel
theorem d1_69 : decode method_2_code 69 = .ok (.bipush 64, 2) := by decide +kernel
theorem d1_71 : decode method_2_code 71 = .ok (.if_icmp .ne 6, 3) := by decide +kernel
theorem d1_74 : decode method_2_code 74 = .ok (.bipush 45, 2) := by decide +kernel
theorem d1_76 : decode method_2_code 76 = .ok (.ireturn, 1) := by decide +kernel
theorem d1_77 : decode method_2_code 77 = .ok (.iload_n 1, 1) := by decide +kernel
theorem d1_78 : decode method_2_code 78 = .ok (.bipush 65, 2) := by decide +kernel
theorem d1_80 : decode method_2_code 80 = .ok (.if_icmp .ne 6, 3) := by decide +kernel
theorem d1_83 : decode method_2_code 83 = .ok (.bipush 58, 2) := by decide +kernel
theorem d1_85 : decode method_2_code 85 = .ok (.ireturn, 1) := by decide +kernel
theorem d1_86 : decode method_2_code 86 = .ok (.bipush 47, 2) := by decide +kernel
theorem d1_88 : decode method_2_code 88 = .ok (.ireturn, 1) := by decide +kernel
theorem own_pn1 : plainName "com/example/trusty_lock/trustylock/LockNameOfPinLaw" = true := by first | (simp [plainName, overriddenIn]; done) | decide +kernel
theorem ef_rm1 (m : MethodId) (p0 : Int32) : entryFrame m #[(.int p0)] 2 = mkF m 0 #[.val (.int p0), .unset] [] := by first | (simp [entryFrame, mkF, argsToLocals, Value.category]; done) | rfl
def own_al (p0 : Int32) : Int32 := (if ((p0 &&& (2147483647 : Int32)) % (67 : Int32)) < (26 : Int32) then (nar .char (((65 : Int32) + ((p0 &&& (2147483647 : Int32)) % (67 : Int32))).toUInt32.toUInt16.toUInt32.toInt32)) else (if ((p0 &&& (2147483647 : Int32)) % (67 : Int32)) < (52 : Int32) then (nar .char (((97 : Int32) + (((p0 &&& (2147483647 : Int32)) % (67 : Int32)) - (26 : Int32))).toUInt32.toUInt16.toUInt32.toInt32)) else (if ((p0 &&& (2147483647 : Int32)) % (67 : Int32)) < (62 : Int32) then (nar .char (((48 : Int32) + (((p0 &&& (2147483647 : Int32)) % (67 : Int32)) - (52 : Int32))).toUInt32.toUInt16.toUInt32.toInt32)) else (if ((p0 &&& (2147483647 : Int32)) % (67 : Int32)) = (62 : Int32) then (46 : Int32) else (if ((p0 &&& (2147483647 : Int32)) % (67 : Int32)) = (63 : Int32) then (95 : Int32) else (if ((p0 &&& (2147483647 : Int32)) % (67 : Int32)) = (64 : Int32) then (45 : Int32) else (if ((p0 &&& (2147483647 : Int32)) % (67 : Int32)) = (65 : Int32) then (58 : Int32) else (47 : Int32))))))))
def Q_rm1 (Z : State) (p0 : Int32) (h0 : Heap) (n0 : Nat) (v : Option Value) (h : Heap) (L : List Loc) : Prop := v = some (.int (own_al p0)) ∧ Fr n0 L ∧ h = h0
set_option maxRecDepth 65536 in
set_option maxHeartbeats 40000000 in
theorem rm1 (l : Launch) (Z : State) (av0 : Array Value) (hw : ∀ d ∈ tables_1, d.before av0 Z = true) (ws : List Jvm.Cond) (p0 : Int32) (h0 : Heap) (n0 : Nat) (Z0 : n0 ≤ h0.size) :
    MetFree l (⟨"com/example/trusty_lock/trustylock/LockNameOfPinLaw", "allowed", "(I)C"⟩ : MethodName) (head1 (Jvm.Cond.code (⟨"com/example/trusty_lock/trustylock/LockNameOfPinLaw", "allowed", "(I)C"⟩ : MethodName) method_2_code 2 (some .char) :: ws) ({ frames := 0, cells := 0, slots := 0, locals := 0 } : Room)) (fun a U => a = #[(.int p0)] ∧ Z.Warmed39 U.vm ∧ U.heap = h0) (fun _ _ _ _ _ => True) (fun _ U o U' => ∃ v L, o = .returned v ∧ Q_rm1 Z p0 h0 n0 v U'.heap L ∧ FrameEnd U o U' L ({ frames := 0, cells := 0, slots := 0, locals := 0 } : Room).cells ({ frames := 0, cells := 0, slots := 0, locals := 0 } : Room).slots) := by
  refine MetFree.of_bodySF (plainFor_of_name own_pn1) hisR ?_
  intro p e s m args below meth c s₁ Bd hml0 hP hK
  obtain ⟨rfl, hZ, hh⟩ := hP
  have hx := Bd.exec
  have hby := Bd.bytes
  have hml : c.maxLocals = 2 := hml0
  have hown : s.vm.findClass "com/example/trusty_lock/trustylock/LockNameOfPinLaw" = some m.cls := findClass_of_methodNamed Bd.named
  have hnm := (name_of_methodNamed Bd.named Bd.method).1
  have X0 : Stand p l e ({ frames := 0, cells := 0, slots := 0, locals := 0 } : Room) s m #[(.int p0)] below meth c s₁ [] 0 0 := Stand.of_body Bd
  have e0 : s₁.heap = h0 := by rw [← hh, Bd.state]; rfl
  have N0 := Fr.nil n0
  refine OGo.by (P := fun U' o => ∃ v L, o = .returned v ∧ Q_rm1 Z p0 h0 n0 v U'.heap L ∧ FrameEnd s o U' L ({ frames := 0, cells := 0, slots := 0, locals := 0 } : Room).cells ({ frames := 0, cells := 0, slots := 0, locals := 0 } : Room).slots) (fun t k => castTop (ef_rm1 m p0) k) ?_
  show OGo p e below _ (s₁.setTop (mkF m 0 #[.val (.int p0), .unset] []))
  refine OGo.by (fun _ k => XS.iloadN X0.here hx rfl (hb hby d1_0) rfl k) ?_
  show OGo p e below _ (s₁.setTop (mkF m 1 #[.val (.int p0), .unset] [(.int p0)]))
  refine OGo.by (X0.ldcInt hx hown (mvT hZ (hw _ (List.mem_of_getElem? (i := 4) rfl))) (g := (mkF m 1 #[.val (.int p0), .unset] [(.int p0)])) rfl (hb hby d1_1)) ?_
  show OGo p e below _ (s₁.setTop (mkF m 3 #[.val (.int p0), .unset] [(.int (2147483647 : Int32)), (.int p0)]))
  refine OGo.by (fun _ k => XS.iand X0.here hx rfl (hb hby d1_3) rfl k) ?_
  show OGo p e below _ (s₁.setTop (mkF m 4 #[.val (.int p0), .unset] [(.int (p0 &&& (2147483647 : Int32)))]))
  refine OGo.by (fun _ k => XS.bipush X0.here hx rfl (hb hby d1_4) k) ?_
  show OGo p e below _ (s₁.setTop (mkF m 6 #[.val (.int p0), .unset] [(.int (67 : Int32)), (.int (p0 &&& (2147483647 : Int32)))]))
  refine OGo.by (fun _ k => iremM X0 hx rfl (hb hby d1_6) rfl (by decide) k) ?_
  show OGo p e below _ (s₁.setTop (mkF m 7 #[.val (.int p0), .unset] [(.int ((p0 &&& (2147483647 : Int32)) % (67 : Int32)))]))
  refine OGo.by (fun _ k => XS.istoreN X0.here hx rfl (hb hby d1_7) rfl (l' := #[.val (.int p0), .val (.int ((p0 &&& (2147483647 : Int32)) % (67 : Int32)))]) rfl k) ?_
  show OGo p e below _ (s₁.setTop (mkF m 8 #[.val (.int p0), .val (.int ((p0 &&& (2147483647 : Int32)) % (67 : Int32)))] []))
  refine OGo.by (fun _ k => XS.iloadN X0.here hx rfl (hb hby d1_8) rfl k) ?_
  show OGo p e below _ (s₁.setTop (mkF m 9 #[.val (.int p0), .val (.int ((p0 &&& (2147483647 : Int32)) % (67 : Int32)))] [(.int ((p0 &&& (2147483647 : Int32)) % (67 : Int32)))]))
  refine OGo.by (fun _ k => XS.bipush X0.here hx rfl (hb hby d1_9) k) ?_
  show OGo p e below _ (s₁.setTop (mkF m 11 #[.val (.int p0), .val (.int ((p0 &&& (2147483647 : Int32)) % (67 : Int32)))] [(.int (26 : Int32)), (.int ((p0 &&& (2147483647 : Int32)) % (67 : Int32)))]))
  by_cases hc11_1 : ((p0 &&& (2147483647 : Int32)) % (67 : Int32)) < (26 : Int32)
  · refine OGo.by (fun _ k => XS.icmpNo X0.here hx rfl (hb hby d1_11) rfl (tlt hc11_1).2.1 k) ?_
    show OGo p e below _ (s₁.setTop (mkF m 14 #[.val (.int p0), .val (.int ((p0 &&& (2147483647 : Int32)) % (67 : Int32)))] []))
    refine OGo.by (fun _ k => XS.bipush X0.here hx rfl (hb hby d1_14) k) ?_
    show OGo p e below _ (s₁.setTop (mkF m 16 #[.val (.int p0), .val (.int ((p0 &&& (2147483647 : Int32)) % (67 : Int32)))] [(.int (65 : Int32))]))
    refine OGo.by (fun _ k => XS.iloadN X0.here hx rfl (hb hby d1_16) rfl k) ?_
    show OGo p e below _ (s₁.setTop (mkF m 17 #[.val (.int p0), .val (.int ((p0 &&& (2147483647 : Int32)) % (67 : Int32)))] [(.int ((p0 &&& (2147483647 : Int32)) % (67 : Int32))), (.int (65 : Int32))]))
    refine OGo.by (fun _ k => XS.iadd X0.here hx rfl (hb hby d1_17) rfl k) ?_
    show OGo p e below _ (s₁.setTop (mkF m 18 #[.val (.int p0), .val (.int ((p0 &&& (2147483647 : Int32)) % (67 : Int32)))] [(.int ((65 : Int32) + ((p0 &&& (2147483647 : Int32)) % (67 : Int32))))]))
    refine OGo.by (fun _ k => XS.i2c X0.here hx rfl (hb hby d1_18) rfl k) ?_
    show OGo p e below _ (s₁.setTop (mkF m 19 #[.val (.int p0), .val (.int ((p0 &&& (2147483647 : Int32)) % (67 : Int32)))] [(.int (((65 : Int32) + ((p0 &&& (2147483647 : Int32)) % (67 : Int32))).toUInt32.toUInt16.toUInt32.toInt32))]))
    obtain ⟨fs, hr, hrun, hended, hW, hsame⟩ := X0.leave (v := some (.int (nar .char (((65 : Int32) + ((p0 &&& (2147483647 : Int32)) % (67 : Int32))).toUInt32.toUInt16.toUInt32.toInt32)))) (fun h => by rw [Bd.returns] at h; cases h)
    refine OGo.ret (retN X0 hx (t := .char) Bd.returns (by simp) (hb hby d1_19) hr) hrun hended ⟨_, _, rfl, ?_, ⟨_, rfl⟩, hW, hsame.mono (by decide) (by decide)⟩
    show Q_rm1 Z p0 h0 n0 _ s₁.heap _
    rw [e0]
    exact ⟨congrArg (fun z => some (Value.int z)) (by show _ = (own_al p0); unfold own_al; rw [if_pos hc11_1]), N0, rfl⟩
  · refine OGo.by (fun _ k => XS.icmpYes X0.here hx rfl (pc0 := 11) (pc' := 20) rfl (hb hby d1_11) rfl (flt hc11_1).2.1 (by decide) (by decide) k) ?_
    show OGo p e below _ (s₁.setTop (mkF m 20 #[.val (.int p0), .val (.int ((p0 &&& (2147483647 : Int32)) % (67 : Int32)))] []))
    refine OGo.by (fun _ k => XS.iloadN X0.here hx rfl (hb hby d1_20) rfl k) ?_
    show OGo p e below _ (s₁.setTop (mkF m 21 #[.val (.int p0), .val (.int ((p0 &&& (2147483647 : Int32)) % (67 : Int32)))] [(.int ((p0 &&& (2147483647 : Int32)) % (67 : Int32)))]))
    refine OGo.by (fun _ k => XS.bipush X0.here hx rfl (hb hby d1_21) k) ?_
    show OGo p e below _ (s₁.setTop (mkF m 23 #[.val (.int p0), .val (.int ((p0 &&& (2147483647 : Int32)) % (67 : Int32)))] [(.int (52 : Int32)), (.int ((p0 &&& (2147483647 : Int32)) % (67 : Int32)))]))
    by_cases hc23_2 : ((p0 &&& (2147483647 : Int32)) % (67 : Int32)) < (52 : Int32)
    · refine OGo.by (fun _ k => XS.icmpNo X0.here hx rfl (hb hby d1_23) rfl (tlt hc23_2).2.1 k) ?_
      show OGo p e below _ (s₁.setTop (mkF m 26 #[.val (.int p0), .val (.int ((p0 &&& (2147483647 : Int32)) % (67 : Int32)))] []))
      refine OGo.by (fun _ k => XS.bipush X0.here hx rfl (hb hby d1_26) k) ?_
      show OGo p e below _ (s₁.setTop (mkF m 28 #[.val (.int p0), .val (.int ((p0 &&& (2147483647 : Int32)) % (67 : Int32)))] [(.int (97 : Int32))]))
      refine OGo.by (fun _ k => XS.iloadN X0.here hx rfl (hb hby d1_28) rfl k) ?_
      show OGo p e below _ (s₁.setTop (mkF m 29 #[.val (.int p0), .val (.int ((p0 &&& (2147483647 : Int32)) % (67 : Int32)))] [(.int ((p0 &&& (2147483647 : Int32)) % (67 : Int32))), (.int (97 : Int32))]))
      refine OGo.by (fun _ k => XS.bipush X0.here hx rfl (hb hby d1_29) k) ?_
      show OGo p e below _ (s₁.setTop (mkF m 31 #[.val (.int p0), .val (.int ((p0 &&& (2147483647 : Int32)) % (67 : Int32)))] [(.int (26 : Int32)), (.int ((p0 &&& (2147483647 : Int32)) % (67 : Int32))), (.int (97 : Int32))]))
      refine OGo.by (fun _ k => XS.isub X0.here hx rfl (hb hby d1_31) rfl k) ?_
      show OGo p e below _ (s₁.setTop (mkF m 32 #[.val (.int p0), .val (.int ((p0 &&& (2147483647 : Int32)) % (67 : Int32)))] [(.int (((p0 &&& (2147483647 : Int32)) % (67 : Int32)) - (26 : Int32))), (.int (97 : Int32))]))
      refine OGo.by (fun _ k => XS.iadd X0.here hx rfl (hb hby d1_32) rfl k) ?_
      show OGo p e below _ (s₁.setTop (mkF m 33 #[.val (.int p0), .val (.int ((p0 &&& (2147483647 : Int32)) % (67 : Int32)))] [(.int ((97 : Int32) + (((p0 &&& (2147483647 : Int32)) % (67 : Int32)) - (26 : Int32))))]))
      refine OGo.by (fun _ k => XS.i2c X0.here hx rfl (hb hby d1_33) rfl k) ?_
      show OGo p e below _ (s₁.setTop (mkF m 34 #[.val (.int p0), .val (.int ((p0 &&& (2147483647 : Int32)) % (67 : Int32)))] [(.int (((97 : Int32) + (((p0 &&& (2147483647 : Int32)) % (67 : Int32)) - (26 : Int32))).toUInt32.toUInt16.toUInt32.toInt32))]))
      obtain ⟨fs, hr, hrun, hended, hW, hsame⟩ := X0.leave (v := some (.int (nar .char (((97 : Int32) + (((p0 &&& (2147483647 : Int32)) % (67 : Int32)) - (26 : Int32))).toUInt32.toUInt16.toUInt32.toInt32)))) (fun h => by rw [Bd.returns] at h; cases h)
      refine OGo.ret (retN X0 hx (t := .char) Bd.returns (by simp) (hb hby d1_34) hr) hrun hended ⟨_, _, rfl, ?_, ⟨_, rfl⟩, hW, hsame.mono (by decide) (by decide)⟩
      show Q_rm1 Z p0 h0 n0 _ s₁.heap _
      rw [e0]
      exact ⟨congrArg (fun z => some (Value.int z)) (by show _ = (own_al p0); unfold own_al; rw [if_neg hc11_1, if_pos hc23_2]), N0, rfl⟩
    · refine OGo.by (fun _ k => XS.icmpYes X0.here hx rfl (pc0 := 23) (pc' := 35) rfl (hb hby d1_23) rfl (flt hc23_2).2.1 (by decide) (by decide) k) ?_
      show OGo p e below _ (s₁.setTop (mkF m 35 #[.val (.int p0), .val (.int ((p0 &&& (2147483647 : Int32)) % (67 : Int32)))] []))
      refine OGo.by (fun _ k => XS.iloadN X0.here hx rfl (hb hby d1_35) rfl k) ?_
      show OGo p e below _ (s₁.setTop (mkF m 36 #[.val (.int p0), .val (.int ((p0 &&& (2147483647 : Int32)) % (67 : Int32)))] [(.int ((p0 &&& (2147483647 : Int32)) % (67 : Int32)))]))
      refine OGo.by (fun _ k => XS.bipush X0.here hx rfl (hb hby d1_36) k) ?_
      show OGo p e below _ (s₁.setTop (mkF m 38 #[.val (.int p0), .val (.int ((p0 &&& (2147483647 : Int32)) % (67 : Int32)))] [(.int (62 : Int32)), (.int ((p0 &&& (2147483647 : Int32)) % (67 : Int32)))]))
      by_cases hc38_3 : ((p0 &&& (2147483647 : Int32)) % (67 : Int32)) < (62 : Int32)
      · refine OGo.by (fun _ k => XS.icmpNo X0.here hx rfl (hb hby d1_38) rfl (tlt hc38_3).2.1 k) ?_
        show OGo p e below _ (s₁.setTop (mkF m 41 #[.val (.int p0), .val (.int ((p0 &&& (2147483647 : Int32)) % (67 : Int32)))] []))
        refine OGo.by (fun _ k => XS.bipush X0.here hx rfl (hb hby d1_41) k) ?_
        show OGo p e below _ (s₁.setTop (mkF m 43 #[.val (.int p0), .val (.int ((p0 &&& (2147483647 : Int32)) % (67 : Int32)))] [(.int (48 : Int32))]))
        refine OGo.by (fun _ k => XS.iloadN X0.here hx rfl (hb hby d1_43) rfl k) ?_
        show OGo p e below _ (s₁.setTop (mkF m 44 #[.val (.int p0), .val (.int ((p0 &&& (2147483647 : Int32)) % (67 : Int32)))] [(.int ((p0 &&& (2147483647 : Int32)) % (67 : Int32))), (.int (48 : Int32))]))
        refine OGo.by (fun _ k => XS.bipush X0.here hx rfl (hb hby d1_44) k) ?_
        show OGo p e below _ (s₁.setTop (mkF m 46 #[.val (.int p0), .val (.int ((p0 &&& (2147483647 : Int32)) % (67 : Int32)))] [(.int (52 : Int32)), (.int ((p0 &&& (2147483647 : Int32)) % (67 : Int32))), (.int (48 : Int32))]))
        refine OGo.by (fun _ k => XS.isub X0.here hx rfl (hb hby d1_46) rfl k) ?_
        show OGo p e below _ (s₁.setTop (mkF m 47 #[.val (.int p0), .val (.int ((p0 &&& (2147483647 : Int32)) % (67 : Int32)))] [(.int (((p0 &&& (2147483647 : Int32)) % (67 : Int32)) - (52 : Int32))), (.int (48 : Int32))]))
        refine OGo.by (fun _ k => XS.iadd X0.here hx rfl (hb hby d1_47) rfl k) ?_
        show OGo p e below _ (s₁.setTop (mkF m 48 #[.val (.int p0), .val (.int ((p0 &&& (2147483647 : Int32)) % (67 : Int32)))] [(.int ((48 : Int32) + (((p0 &&& (2147483647 : Int32)) % (67 : Int32)) - (52 : Int32))))]))
        refine OGo.by (fun _ k => XS.i2c X0.here hx rfl (hb hby d1_48) rfl k) ?_
        show OGo p e below _ (s₁.setTop (mkF m 49 #[.val (.int p0), .val (.int ((p0 &&& (2147483647 : Int32)) % (67 : Int32)))] [(.int (((48 : Int32) + (((p0 &&& (2147483647 : Int32)) % (67 : Int32)) - (52 : Int32))).toUInt32.toUInt16.toUInt32.toInt32))]))
        obtain ⟨fs, hr, hrun, hended, hW, hsame⟩ := X0.leave (v := some (.int (nar .char (((48 : Int32) + (((p0 &&& (2147483647 : Int32)) % (67 : Int32)) - (52 : Int32))).toUInt32.toUInt16.toUInt32.toInt32)))) (fun h => by rw [Bd.returns] at h; cases h)
        refine OGo.ret (retN X0 hx (t := .char) Bd.returns (by simp) (hb hby d1_49) hr) hrun hended ⟨_, _, rfl, ?_, ⟨_, rfl⟩, hW, hsame.mono (by decide) (by decide)⟩
        show Q_rm1 Z p0 h0 n0 _ s₁.heap _
        rw [e0]
        exact ⟨congrArg (fun z => some (Value.int z)) (by show _ = (own_al p0); unfold own_al; rw [if_neg hc11_1, if_neg hc23_2, if_pos hc38_3]), N0, rfl⟩
      · refine OGo.by (fun _ k => XS.icmpYes X0.here hx rfl (pc0 := 38) (pc' := 50) rfl (hb hby d1_38) rfl (flt hc38_3).2.1 (by decide) (by decide) k) ?_
        show OGo p e below _ (s₁.setTop (mkF m 50 #[.val (.int p0), .val (.int ((p0 &&& (2147483647 : Int32)) % (67 : Int32)))] []))
        refine OGo.by (fun _ k => XS.iloadN X0.here hx rfl (hb hby d1_50) rfl k) ?_
        show OGo p e below _ (s₁.setTop (mkF m 51 #[.val (.int p0), .val (.int ((p0 &&& (2147483647 : Int32)) % (67 : Int32)))] [(.int ((p0 &&& (2147483647 : Int32)) % (67 : Int32)))]))
        refine OGo.by (fun _ k => XS.bipush X0.here hx rfl (hb hby d1_51) k) ?_
        show OGo p e below _ (s₁.setTop (mkF m 53 #[.val (.int p0), .val (.int ((p0 &&& (2147483647 : Int32)) % (67 : Int32)))] [(.int (62 : Int32)), (.int ((p0 &&& (2147483647 : Int32)) % (67 : Int32)))]))
        by_cases hc53_4 : ((p0 &&& (2147483647 : Int32)) % (67 : Int32)) = (62 : Int32)
        · refine OGo.by (fun _ k => XS.icmpNo X0.here hx rfl (hb hby d1_53) rfl (teq hc53_4).2 k) ?_
          show OGo p e below _ (s₁.setTop (mkF m 56 #[.val (.int p0), .val (.int ((p0 &&& (2147483647 : Int32)) % (67 : Int32)))] []))
          refine OGo.by (fun _ k => XS.bipush X0.here hx rfl (hb hby d1_56) k) ?_
          show OGo p e below _ (s₁.setTop (mkF m 58 #[.val (.int p0), .val (.int ((p0 &&& (2147483647 : Int32)) % (67 : Int32)))] [(.int (46 : Int32))]))
          obtain ⟨fs, hr, hrun, hended, hW, hsame⟩ := X0.leave (v := some (.int (46 : Int32))) (fun h => by rw [Bd.returns] at h; cases h)
          refine OGo.ret (retN X0 hx (t := .char) Bd.returns (by simp) (hb hby d1_58) hr) hrun hended ⟨_, _, rfl, ?_, ⟨_, rfl⟩, hW, hsame.mono (by decide) (by decide)⟩
          show Q_rm1 Z p0 h0 n0 _ s₁.heap _
          rw [e0]
          exact ⟨congrArg (fun z => some (Value.int z)) (by show _ = (own_al p0); unfold own_al; rw [if_neg hc11_1, if_neg hc23_2, if_neg hc38_3, if_pos hc53_4]), N0, rfl⟩
        · refine OGo.by (fun _ k => XS.icmpYes X0.here hx rfl (pc0 := 53) (pc' := 59) rfl (hb hby d1_53) rfl (feq hc53_4).2 (by decide) (by decide) k) ?_
          show OGo p e below _ (s₁.setTop (mkF m 59 #[.val (.int p0), .val (.int ((p0 &&& (2147483647 : Int32)) % (67 : Int32)))] []))
          refine OGo.by (fun _ k => XS.iloadN X0.here hx rfl (hb hby d1_59) rfl k) ?_
          show OGo p e below _ (s₁.setTop (mkF m 60 #[.val (.int p0), .val (.int ((p0 &&& (2147483647 : Int32)) % (67 : Int32)))] [(.int ((p0 &&& (2147483647 : Int32)) % (67 : Int32)))]))
          refine OGo.by (fun _ k => XS.bipush X0.here hx rfl (hb hby d1_60) k) ?_
          show OGo p e below _ (s₁.setTop (mkF m 62 #[.val (.int p0), .val (.int ((p0 &&& (2147483647 : Int32)) % (67 : Int32)))] [(.int (63 : Int32)), (.int ((p0 &&& (2147483647 : Int32)) % (67 : Int32)))]))
          by_cases hc62_5 : ((p0 &&& (2147483647 : Int32)) % (67 : Int32)) = (63 : Int32)
          · refine OGo.by (fun _ k => XS.icmpNo X0.here hx rfl (hb hby d1_62) rfl (teq hc62_5).2 k) ?_
            show OGo p e below _ (s₁.setTop (mkF m 65 #[.val (.int p0), .val (.int ((p0 &&& (2147483647 : Int32)) % (67 : Int32)))] []))
            refine OGo.by (fun _ k => XS.bipush X0.here hx rfl (hb hby d1_65) k) ?_
            show OGo p e below _ (s₁.setTop (mkF m 67 #[.val (.int p0), .val (.int ((p0 &&& (2147483647 : Int32)) % (67 : Int32)))] [(.int (95 : Int32))]))
            obtain ⟨fs, hr, hrun, hended, hW, hsame⟩ := X0.leave (v := some (.int (95 : Int32))) (fun h => by rw [Bd.returns] at h; cases h)
            refine OGo.ret (retN X0 hx (t := .char) Bd.returns (by simp) (hb hby d1_67) hr) hrun hended ⟨_, _, rfl, ?_, ⟨_, rfl⟩, hW, hsame.mono (by decide) (by decide)⟩
            show Q_rm1 Z p0 h0 n0 _ s₁.heap _
            rw [e0]
            exact ⟨congrArg (fun z => some (Value.int z)) (by show _ = (own_al p0); unfold own_al; rw [if_neg hc11_1, if_neg hc23_2, if_neg hc38_3, if_neg hc53_4, if_pos hc62_5]), N0, rfl⟩
          · refine OGo.by (fun _ k => XS.icmpYes X0.here hx rfl (pc0 := 62) (pc' := 68) rfl (hb hby d1_62) rfl (feq hc62_5).2 (by decide) (by decide) k) ?_
            show OGo p e below _ (s₁.setTop (mkF m 68 #[.val (.int p0), .val (.int ((p0 &&& (2147483647 : Int32)) % (67 : Int32)))] []))
            refine OGo.by (fun _ k => XS.iloadN X0.here hx rfl (hb hby d1_68) rfl k) ?_
            show OGo p e below _ (s₁.setTop (mkF m 69 #[.val (.int p0), .val (.int ((p0 &&& (2147483647 : Int32)) % (67 : Int32)))] [(.int ((p0 &&& (2147483647 : Int32)) % (67 : Int32)))]))
            refine OGo.by (fun _ k => XS.bipush X0.here hx rfl (hb hby d1_69) k) ?_
            show OGo p e below _ (s₁.setTop (mkF m 71 #[.val (.int p0), .val (.int ((p0 &&& (2147483647 : Int32)) % (67 : Int32)))] [(.int (64 : Int32)), (.int ((p0 &&& (2147483647 : Int32)) % (67 : Int32)))]))
            by_cases hc71_6 : ((p0 &&& (2147483647 : Int32)) % (67 : Int32)) = (64 : Int32)
            · refine OGo.by (fun _ k => XS.icmpNo X0.here hx rfl (hb hby d1_71) rfl (teq hc71_6).2 k) ?_
              show OGo p e below _ (s₁.setTop (mkF m 74 #[.val (.int p0), .val (.int ((p0 &&& (2147483647 : Int32)) % (67 : Int32)))] []))
              refine OGo.by (fun _ k => XS.bipush X0.here hx rfl (hb hby d1_74) k) ?_
              show OGo p e below _ (s₁.setTop (mkF m 76 #[.val (.int p0), .val (.int ((p0 &&& (2147483647 : Int32)) % (67 : Int32)))] [(.int (45 : Int32))]))
              obtain ⟨fs, hr, hrun, hended, hW, hsame⟩ := X0.leave (v := some (.int (45 : Int32))) (fun h => by rw [Bd.returns] at h; cases h)
              refine OGo.ret (retN X0 hx (t := .char) Bd.returns (by simp) (hb hby d1_76) hr) hrun hended ⟨_, _, rfl, ?_, ⟨_, rfl⟩, hW, hsame.mono (by decide) (by decide)⟩
              show Q_rm1 Z p0 h0 n0 _ s₁.heap _
              rw [e0]
              exact ⟨congrArg (fun z => some (Value.int z)) (by show _ = (own_al p0); unfold own_al; rw [if_neg hc11_1, if_neg hc23_2, if_neg hc38_3, if_neg hc53_4, if_neg hc62_5, if_pos hc71_6]), N0, rfl⟩
            · refine OGo.by (fun _ k => XS.icmpYes X0.here hx rfl (pc0 := 71) (pc' := 77) rfl (hb hby d1_71) rfl (feq hc71_6).2 (by decide) (by decide) k) ?_
              show OGo p e below _ (s₁.setTop (mkF m 77 #[.val (.int p0), .val (.int ((p0 &&& (2147483647 : Int32)) % (67 : Int32)))] []))
              refine OGo.by (fun _ k => XS.iloadN X0.here hx rfl (hb hby d1_77) rfl k) ?_
              show OGo p e below _ (s₁.setTop (mkF m 78 #[.val (.int p0), .val (.int ((p0 &&& (2147483647 : Int32)) % (67 : Int32)))] [(.int ((p0 &&& (2147483647 : Int32)) % (67 : Int32)))]))
              refine OGo.by (fun _ k => XS.bipush X0.here hx rfl (hb hby d1_78) k) ?_
              show OGo p e below _ (s₁.setTop (mkF m 80 #[.val (.int p0), .val (.int ((p0 &&& (2147483647 : Int32)) % (67 : Int32)))] [(.int (65 : Int32)), (.int ((p0 &&& (2147483647 : Int32)) % (67 : Int32)))]))
              by_cases hc80_7 : ((p0 &&& (2147483647 : Int32)) % (67 : Int32)) = (65 : Int32)
              · refine OGo.by (fun _ k => XS.icmpNo X0.here hx rfl (hb hby d1_80) rfl (teq hc80_7).2 k) ?_
                show OGo p e below _ (s₁.setTop (mkF m 83 #[.val (.int p0), .val (.int ((p0 &&& (2147483647 : Int32)) % (67 : Int32)))] []))
                refine OGo.by (fun _ k => XS.bipush X0.here hx rfl (hb hby d1_83) k) ?_
                show OGo p e below _ (s₁.setTop (mkF m 85 #[.val (.int p0), .val (.int ((p0 &&& (2147483647 : Int32)) % (67 : Int32)))] [(.int (58 : Int32))]))
                obtain ⟨fs, hr, hrun, hended, hW, hsame⟩ := X0.leave (v := some (.int (58 : Int32))) (fun h => by rw [Bd.returns] at h; cases h)
                refine OGo.ret (retN X0 hx (t := .char) Bd.returns (by simp) (hb hby d1_85) hr) hrun hended ⟨_, _, rfl, ?_, ⟨_, rfl⟩, hW, hsame.mono (by decide) (by decide)⟩
                show Q_rm1 Z p0 h0 n0 _ s₁.heap _
                rw [e0]
                exact ⟨congrArg (fun z => some (Value.int z)) (by show _ = (own_al p0); unfold own_al; rw [if_neg hc11_1, if_neg hc23_2, if_neg hc38_3, if_neg hc53_4, if_neg hc62_5, if_neg hc71_6, if_pos hc80_7]), N0, rfl⟩
              · refine OGo.by (fun _ k => XS.icmpYes X0.here hx rfl (pc0 := 80) (pc' := 86) rfl (hb hby d1_80) rfl (feq hc80_7).2 (by decide) (by decide) k) ?_
                show OGo p e below _ (s₁.setTop (mkF m 86 #[.val (.int p0), .val (.int ((p0 &&& (2147483647 : Int32)) % (67 : Int32)))] []))
                refine OGo.by (fun _ k => XS.bipush X0.here hx rfl (hb hby d1_86) k) ?_
                show OGo p e below _ (s₁.setTop (mkF m 88 #[.val (.int p0), .val (.int ((p0 &&& (2147483647 : Int32)) % (67 : Int32)))] [(.int (47 : Int32))]))
                obtain ⟨fs, hr, hrun, hended, hW, hsame⟩ := X0.leave (v := some (.int (47 : Int32))) (fun h => by rw [Bd.returns] at h; cases h)
                refine OGo.ret (retN X0 hx (t := .char) Bd.returns (by simp) (hb hby d1_88) hr) hrun hended ⟨_, _, rfl, ?_, ⟨_, rfl⟩, hW, hsame.mono (by decide) (by decide)⟩
                show Q_rm1 Z p0 h0 n0 _ s₁.heap _
                rw [e0]
                exact ⟨congrArg (fun z => some (Value.int z)) (by show _ = (own_al p0); unfold own_al; rw [if_neg hc11_1, if_neg hc23_2, if_neg hc38_3, if_neg hc53_4, if_neg hc62_5, if_neg hc71_6, if_neg hc80_7]), N0, rfl⟩
theorem d19_0 : decode prog_9_method_3_code 0 = .ok (.iload_n 0, 1) := by decide +kernel
theorem d19_1 : decode prog_9_method_3_code 1 = .ok (.bipush 65, 2) := by decide +kernel
theorem d19_3 : decode prog_9_method_3_code 3 = .ok (.if_icmp .lt 9, 3) := by decide +kernel
theorem d19_12 : decode prog_9_method_3_code 12 = .ok (.iload_n 0, 1) := by decide +kernel
theorem d19_13 : decode prog_9_method_3_code 13 = .ok (.bipush 97, 2) := by decide +kernel
theorem d19_15 : decode prog_9_method_3_code 15 = .ok (.if_icmp .lt 9, 3) := by decide +kernel
theorem d19_24 : decode prog_9_method_3_code 24 = .ok (.iload_n 0, 1) := by decide +kernel
theorem d19_25 : decode prog_9_method_3_code 25 = .ok (.bipush 48, 2) := by decide +kernel
theorem d19_27 : decode prog_9_method_3_code 27 = .ok (.if_icmp .lt 9, 3) := by decide +kernel
theorem d19_36 : decode prog_9_method_3_code 36 = .ok (.iload_n 0, 1) := by decide +kernel
theorem d19_37 : decode prog_9_method_3_code 37 = .ok (.bipush 46, 2) := by decide +kernel
theorem d19_39 : decode prog_9_method_3_code 39 = .ok (.if_icmp .eq 27, 3) := by decide +kernel
theorem d19_66 : decode prog_9_method_3_code 66 = .ok (.iconst 1, 1) := by decide +kernel
theorem d19_67 : decode prog_9_method_3_code 67 = .ok (.goto 4, 3) := by decide +kernel
theorem d19_71 : decode prog_9_method_3_code 71 = .ok (.ireturn, 1) := by decide +kernel
theorem d19_42 : decode prog_9_method_3_code 42 = .ok (.iload_n 0, 1) := by decide +kernel
theorem d19_43 : decode prog_9_method_3_code 43 = .ok (.bipush 95, 2) := by decide +kernel
theorem d19_45 : decode prog_9_method_3_code 45 = .ok (.if_icmp .eq 21, 3) := by decide +kernel
theorem d19_48 : decode prog_9_method_3_code 48 = .ok (.iload_n 0, 1) := by decide +kernel
theorem d19_49 : decode prog_9_method_3_code 49 = .ok (.bipush 45, 2) := by decide +kernel
theorem d19_51 : decode prog_9_method_3_code 51 = .ok (.if_icmp .eq 15, 3) := by decide +kernel
theorem d19_54 : decode prog_9_method_3_code 54 = .ok (.iload_n 0, 1) := by decide +kernel
theorem d19_55 : decode prog_9_method_3_code 55 = .ok (.bipush 58, 2) := by decide +kernel
theorem d19_57 : decode prog_9_method_3_code 57 = .ok (.if_icmp .eq 9, 3) := by decide +kernel
theorem d19_60 : decode prog_9_method_3_code 60 = .ok (.iload_n 0, 1) := by decide +kernel
theorem d19_61 : decode prog_9_method_3_code 61 = .ok (.bipush 47, 2) := by decide +kernel
theorem d19_63 : decode prog_9_method_3_code 63 = .ok (.if_icmp .ne 7, 3) := by decide +kernel
theorem d19_70 : decode prog_9_method_3_code 70 = .ok (.iconst 0, 1) := by decide +kernel
theorem d19_30 : decode prog_9_method_3_code 30 = .ok (.iload_n 0, 1) := by decide +kernel
theorem d19_31 : decode prog_9_method_3_code 31 = .ok (.bipush 57, 2) := by decide +kernel
theorem d19_33 : decode prog_9_method_3_code 33 = .ok (.if_icmp .le 33, 3) := by decide +kernel
theorem d19_18 : decode prog_9_method_3_code 18 = .ok (.iload_n 0, 1) := by decide +kernel
theorem d19_19 : decode prog_9_method_3_code 19 = .ok (.bipush 122, 2) := by decide +kernel
theorem d19_21 : decode prog_9_method_3_code 21 = .ok (.if_icmp .le 45, 3) := by decide +kernel
theorem d19_6 : decode prog_9_method_3_code 6 = .ok (.iload_n 0, 1) := by decide +kernel
theorem d19_7 : decode prog_9_method_3_code 7 = .ok (.bipush 90, 2) := by decide +kernel
theorem d19_9 : decode prog_9_method_3_code 9 = .ok (.if_icmp .le 57, 3) := by decide +kernel
theorem own_pn19 : plainName "com/example/trusty_lock/trustylock/LockName" = true := by first | (simp [plainName, overriddenIn]; done) | decide +kernel
theorem ef_rm19 (m : MethodId) (p0 : Int32) : entryFrame m #[(.int p0)] 1 = mkF m 0 #[.val (.int p0)] [] := by first | (simp [entryFrame, mkF, argsToLocals, Value.category]; done) | rfl
def own_isA (p0 : Int32) : Int32 := (if p0 < (65 : Int32) then (if p0 < (97 : Int32) then (if p0 < (48 : Int32) then (if p0 = (46 : Int32) then (1 : Int32) else (if p0 = (95 : Int32) then (1 : Int32) else (if p0 = (45 : Int32) then (1 : Int32) else (if p0 = (58 : Int32) then (1 : Int32) else (if p0 = (47 : Int32) then (1 : Int32) else (0 : Int32)))))) else (if (57 : Int32) < p0 then (if p0 = (46 : Int32) then (1 : Int32) else (if p0 = (95 : Int32) then (1 : Int32) else (if p0 = (45 : Int32) then (1 : Int32) else (if p0 = (58 : Int32) then (1 : Int32) else (if p0 = (47 : Int32) then (1 : Int32) else (0 : Int32)))))) else (1 : Int32))) else (if (122 : Int32) < p0 then (if p0 < (48 : Int32) then (if p0 = (46 : Int32) then (1 : Int32) else (if p0 = (95 : Int32) then (1 : Int32) else (if p0 = (45 : Int32) then (1 : Int32) else (if p0 = (58 : Int32) then (1 : Int32) else (if p0 = (47 : Int32) then (1 : Int32) else (0 : Int32)))))) else (if (57 : Int32) < p0 then (if p0 = (46 : Int32) then (1 : Int32) else (if p0 = (95 : Int32) then (1 : Int32) else (if p0 = (45 : Int32) then (1 : Int32) else (if p0 = (58 : Int32) then (1 : Int32) else (if p0 = (47 : Int32) then (1 : Int32) else (0 : Int32)))))) else (1 : Int32))) else (1 : Int32))) else (if (90 : Int32) < p0 then (if p0 < (97 : Int32) then (if p0 < (48 : Int32) then (if p0 = (46 : Int32) then (1 : Int32) else (if p0 = (95 : Int32) then (1 : Int32) else (if p0 = (45 : Int32) then (1 : Int32) else (if p0 = (58 : Int32) then (1 : Int32) else (if p0 = (47 : Int32) then (1 : Int32) else (0 : Int32)))))) else (if (57 : Int32) < p0 then (if p0 = (46 : Int32) then (1 : Int32) else (if p0 = (95 : Int32) then (1 : Int32) else (if p0 = (45 : Int32) then (1 : Int32) else (if p0 = (58 : Int32) then (1 : Int32) else (if p0 = (47 : Int32) then (1 : Int32) else (0 : Int32)))))) else (1 : Int32))) else (if (122 : Int32) < p0 then (if p0 < (48 : Int32) then (if p0 = (46 : Int32) then (1 : Int32) else (if p0 = (95 : Int32) then (1 : Int32) else (if p0 = (45 : Int32) then (1 : Int32) else (if p0 = (58 : Int32) then (1 : Int32) else (if p0 = (47 : Int32) then (1 : Int32) else (0 : Int32)))))) else (if (57 : Int32) < p0 then (if p0 = (46 : Int32) then (1 : Int32) else (if p0 = (95 : Int32) then (1 : Int32) else (if p0 = (45 : Int32) then (1 : Int32) else (if p0 = (58 : Int32) then (1 : Int32) else (if p0 = (47 : Int32) then (1 : Int32) else (0 : Int32)))))) else (1 : Int32))) else (1 : Int32))) else (1 : Int32)))
def Q_rm19 (Z : State) (p0 : Int32) (h0 : Heap) (n0 : Nat) (v : Option Value) (h : Heap) (L : List Loc) : Prop := v = some (.int (own_isA p0)) ∧ Fr n0 L ∧ h = h0
set_option maxRecDepth 65536 in
set_option maxHeartbeats 40000000 in
theorem rm19 (l : Launch) (Z : State) (av0 : Array Value) (hw : ∀ d ∈ tables_1, d.before av0 Z = true) (ws : List Jvm.Cond) (p0 : Int32) (h0 : Heap) (n0 : Nat) (Z0 : n0 ≤ h0.size) :
    MetFree l (⟨"com/example/trusty_lock/trustylock/LockName", "isAllowed", "(C)Z"⟩ : MethodName) (head1 (Jvm.Cond.code (⟨"com/example/trusty_lock/trustylock/LockName", "isAllowed", "(C)Z"⟩ : MethodName) prog_9_method_3_code 1 (some .boolean) :: ws) ({ frames := 0, cells := 0, slots := 0, locals := 0 } : Room)) (fun a U => a = #[(.int p0)] ∧ Z.Warmed39 U.vm ∧ U.heap = h0) (fun _ _ _ _ _ => True) (fun _ U o U' => ∃ v L, o = .returned v ∧ Q_rm19 Z p0 h0 n0 v U'.heap L ∧ FrameEnd U o U' L ({ frames := 0, cells := 0, slots := 0, locals := 0 } : Room).cells ({ frames := 0, cells := 0, slots := 0, locals := 0 } : Room).slots) := by
  refine MetFree.of_bodySF (plainFor_of_name own_pn19) hisR ?_
  intro p e s m args below meth c s₁ Bd hml0 hP hK
  obtain ⟨rfl, hZ, hh⟩ := hP
  have hx := Bd.exec
  have hby := Bd.bytes
  have hml : c.maxLocals = 1 := hml0
  have hown : s.vm.findClass "com/example/trusty_lock/trustylock/LockName" = some m.cls := findClass_of_methodNamed Bd.named
  have hnm := (name_of_methodNamed Bd.named Bd.method).1
  have X0 : Stand p l e ({ frames := 0, cells := 0, slots := 0, locals := 0 } : Room) s m #[(.int p0)] below meth c s₁ [] 0 0 := Stand.of_body Bd
  have e0 : s₁.heap = h0 := by rw [← hh, Bd.state]; rfl
  have N0 := Fr.nil n0
  refine OGo.by (P := fun U' o => ∃ v L, o = .returned v ∧ Q_rm19 Z p0 h0 n0 v U'.heap L ∧ FrameEnd s o U' L ({ frames := 0, cells := 0, slots := 0, locals := 0 } : Room).cells ({ frames := 0, cells := 0, slots := 0, locals := 0 } : Room).slots) (fun t k => castTop (ef_rm19 m p0) k) ?_
  show OGo p e below _ (s₁.setTop (mkF m 0 #[.val (.int p0)] []))
  refine OGo.by (fun _ k => XS.iloadN X0.here hx rfl (hb hby d19_0) rfl k) ?_
  show OGo p e below _ (s₁.setTop (mkF m 1 #[.val (.int p0)] [(.int p0)]))
  refine OGo.by (fun _ k => XS.bipush X0.here hx rfl (hb hby d19_1) k) ?_
  show OGo p e below _ (s₁.setTop (mkF m 3 #[.val (.int p0)] [(.int (65 : Int32)), (.int p0)]))
  by_cases hc3_1 : p0 < (65 : Int32)
  · refine OGo.by (fun _ k => XS.icmpYes X0.here hx rfl (pc0 := 3) (pc' := 12) rfl (hb hby d19_3) rfl (tlt hc3_1).1 (by decide) (by decide) k) ?_
    show OGo p e below _ (s₁.setTop (mkF m 12 #[.val (.int p0)] []))
    refine OGo.by (fun _ k => XS.iloadN X0.here hx rfl (hb hby d19_12) rfl k) ?_
    show OGo p e below _ (s₁.setTop (mkF m 13 #[.val (.int p0)] [(.int p0)]))
    refine OGo.by (fun _ k => XS.bipush X0.here hx rfl (hb hby d19_13) k) ?_
    show OGo p e below _ (s₁.setTop (mkF m 15 #[.val (.int p0)] [(.int (97 : Int32)), (.int p0)]))
    by_cases hc15_2 : p0 < (97 : Int32)
    · refine OGo.by (fun _ k => XS.icmpYes X0.here hx rfl (pc0 := 15) (pc' := 24) rfl (hb hby d19_15) rfl (tlt hc15_2).1 (by decide) (by decide) k) ?_
      show OGo p e below _ (s₁.setTop (mkF m 24 #[.val (.int p0)] []))
      refine OGo.by (fun _ k => XS.iloadN X0.here hx rfl (hb hby d19_24) rfl k) ?_
      show OGo p e below _ (s₁.setTop (mkF m 25 #[.val (.int p0)] [(.int p0)]))
      refine OGo.by (fun _ k => XS.bipush X0.here hx rfl (hb hby d19_25) k) ?_
      show OGo p e below _ (s₁.setTop (mkF m 27 #[.val (.int p0)] [(.int (48 : Int32)), (.int p0)]))
      by_cases hc27_3 : p0 < (48 : Int32)
      · refine OGo.by (fun _ k => XS.icmpYes X0.here hx rfl (pc0 := 27) (pc' := 36) rfl (hb hby d19_27) rfl (tlt hc27_3).1 (by decide) (by decide) k) ?_
        show OGo p e below _ (s₁.setTop (mkF m 36 #[.val (.int p0)] []))
        refine OGo.by (fun _ k => XS.iloadN X0.here hx rfl (hb hby d19_36) rfl k) ?_
        show OGo p e below _ (s₁.setTop (mkF m 37 #[.val (.int p0)] [(.int p0)]))
        refine OGo.by (fun _ k => XS.bipush X0.here hx rfl (hb hby d19_37) k) ?_
        show OGo p e below _ (s₁.setTop (mkF m 39 #[.val (.int p0)] [(.int (46 : Int32)), (.int p0)]))
        by_cases hc39_4 : p0 = (46 : Int32)
        · refine OGo.by (fun _ k => XS.icmpYes X0.here hx rfl (pc0 := 39) (pc' := 66) rfl (hb hby d19_39) rfl (teq hc39_4).1 (by decide) (by decide) k) ?_
          show OGo p e below _ (s₁.setTop (mkF m 66 #[.val (.int p0)] []))
          refine OGo.by (fun _ k => XS.iconst X0.here hx rfl (hb hby d19_66) k) ?_
          show OGo p e below _ (s₁.setTop (mkF m 67 #[.val (.int p0)] [(.int (1 : Int32))]))
          refine OGo.by (fun _ k => XS.goto X0.here hx rfl (pc0 := 67) (pc' := 71) rfl (hb hby d19_67) (by decide) (by decide) k) ?_
          show OGo p e below _ (s₁.setTop (mkF m 71 #[.val (.int p0)] [(.int (1 : Int32))]))
          obtain ⟨fs, hr, hrun, hended, hW, hsame⟩ := X0.leave (v := some (.int (1 : Int32))) (fun h => by rw [Bd.returns] at h; cases h)
          refine OGo.ret (retN X0 hx (t := .boolean) Bd.returns (by simp) (hb hby d19_71) hr) hrun hended ⟨_, _, rfl, ?_, ⟨_, rfl⟩, hW, hsame.mono (by decide) (by decide)⟩
          show Q_rm19 Z p0 h0 n0 _ s₁.heap _
          rw [e0]
          exact ⟨congrArg (fun z => some (Value.int z)) (by show _ = (own_isA p0); unfold own_isA; rw [if_pos hc3_1, if_pos hc15_2, if_pos hc27_3, if_pos hc39_4]), N0, rfl⟩
        · refine OGo.by (fun _ k => XS.icmpNo X0.here hx rfl (hb hby d19_39) rfl (feq hc39_4).1 k) ?_
          show OGo p e below _ (s₁.setTop (mkF m 42 #[.val (.int p0)] []))
          refine OGo.by (fun _ k => XS.iloadN X0.here hx rfl (hb hby d19_42) rfl k) ?_
          show OGo p e below _ (s₁.setTop (mkF m 43 #[.val (.int p0)] [(.int p0)]))
          refine OGo.by (fun _ k => XS.bipush X0.here hx rfl (hb hby d19_43) k) ?_
          show OGo p e below _ (s₁.setTop (mkF m 45 #[.val (.int p0)] [(.int (95 : Int32)), (.int p0)]))
          by_cases hc45_5 : p0 = (95 : Int32)
          · refine OGo.by (fun _ k => XS.icmpYes X0.here hx rfl (pc0 := 45) (pc' := 66) rfl (hb hby d19_45) rfl (teq hc45_5).1 (by decide) (by decide) k) ?_
            show OGo p e below _ (s₁.setTop (mkF m 66 #[.val (.int p0)] []))
            refine OGo.by (fun _ k => XS.iconst X0.here hx rfl (hb hby d19_66) k) ?_
            show OGo p e below _ (s₁.setTop (mkF m 67 #[.val (.int p0)] [(.int (1 : Int32))]))
            refine OGo.by (fun _ k => XS.goto X0.here hx rfl (pc0 := 67) (pc' := 71) rfl (hb hby d19_67) (by decide) (by decide) k) ?_
            show OGo p e below _ (s₁.setTop (mkF m 71 #[.val (.int p0)] [(.int (1 : Int32))]))
            obtain ⟨fs, hr, hrun, hended, hW, hsame⟩ := X0.leave (v := some (.int (1 : Int32))) (fun h => by rw [Bd.returns] at h; cases h)
            refine OGo.ret (retN X0 hx (t := .boolean) Bd.returns (by simp) (hb hby d19_71) hr) hrun hended ⟨_, _, rfl, ?_, ⟨_, rfl⟩, hW, hsame.mono (by decide) (by decide)⟩
            show Q_rm19 Z p0 h0 n0 _ s₁.heap _
            rw [e0]
            exact ⟨congrArg (fun z => some (Value.int z)) (by show _ = (own_isA p0); unfold own_isA; rw [if_pos hc3_1, if_pos hc15_2, if_pos hc27_3, if_neg hc39_4, if_pos hc45_5]), N0, rfl⟩
          · refine OGo.by (fun _ k => XS.icmpNo X0.here hx rfl (hb hby d19_45) rfl (feq hc45_5).1 k) ?_
            show OGo p e below _ (s₁.setTop (mkF m 48 #[.val (.int p0)] []))
            refine OGo.by (fun _ k => XS.iloadN X0.here hx rfl (hb hby d19_48) rfl k) ?_
            show OGo p e below _ (s₁.setTop (mkF m 49 #[.val (.int p0)] [(.int p0)]))
            refine OGo.by (fun _ k => XS.bipush X0.here hx rfl (hb hby d19_49) k) ?_
            show OGo p e below _ (s₁.setTop (mkF m 51 #[.val (.int p0)] [(.int (45 : Int32)), (.int p0)]))
            by_cases hc51_6 : p0 = (45 : Int32)
            · refine OGo.by (fun _ k => XS.icmpYes X0.here hx rfl (pc0 := 51) (pc' := 66) rfl (hb hby d19_51) rfl (teq hc51_6).1 (by decide) (by decide) k) ?_
              show OGo p e below _ (s₁.setTop (mkF m 66 #[.val (.int p0)] []))
              refine OGo.by (fun _ k => XS.iconst X0.here hx rfl (hb hby d19_66) k) ?_
              show OGo p e below _ (s₁.setTop (mkF m 67 #[.val (.int p0)] [(.int (1 : Int32))]))
              refine OGo.by (fun _ k => XS.goto X0.here hx rfl (pc0 := 67) (pc' := 71) rfl (hb hby d19_67) (by decide) (by decide) k) ?_
              show OGo p e below _ (s₁.setTop (mkF m 71 #[.val (.int p0)] [(.int (1 : Int32))]))
              obtain ⟨fs, hr, hrun, hended, hW, hsame⟩ := X0.leave (v := some (.int (1 : Int32))) (fun h => by rw [Bd.returns] at h; cases h)
              refine OGo.ret (retN X0 hx (t := .boolean) Bd.returns (by simp) (hb hby d19_71) hr) hrun hended ⟨_, _, rfl, ?_, ⟨_, rfl⟩, hW, hsame.mono (by decide) (by decide)⟩
              show Q_rm19 Z p0 h0 n0 _ s₁.heap _
              rw [e0]
              exact ⟨congrArg (fun z => some (Value.int z)) (by show _ = (own_isA p0); unfold own_isA; rw [if_pos hc3_1, if_pos hc15_2, if_pos hc27_3, if_neg hc39_4, if_neg hc45_5, if_pos hc51_6]), N0, rfl⟩
            · refine OGo.by (fun _ k => XS.icmpNo X0.here hx rfl (hb hby d19_51) rfl (feq hc51_6).1 k) ?_
              show OGo p e below _ (s₁.setTop (mkF m 54 #[.val (.int p0)] []))
              refine OGo.by (fun _ k => XS.iloadN X0.here hx rfl (hb hby d19_54) rfl k) ?_
              show OGo p e below _ (s₁.setTop (mkF m 55 #[.val (.int p0)] [(.int p0)]))
              refine OGo.by (fun _ k => XS.bipush X0.here hx rfl (hb hby d19_55) k) ?_
              show OGo p e below _ (s₁.setTop (mkF m 57 #[.val (.int p0)] [(.int (58 : Int32)), (.int p0)]))
              by_cases hc57_7 : p0 = (58 : Int32)
              · refine OGo.by (fun _ k => XS.icmpYes X0.here hx rfl (pc0 := 57) (pc' := 66) rfl (hb hby d19_57) rfl (teq hc57_7).1 (by decide) (by decide) k) ?_
                show OGo p e below _ (s₁.setTop (mkF m 66 #[.val (.int p0)] []))
                refine OGo.by (fun _ k => XS.iconst X0.here hx rfl (hb hby d19_66) k) ?_
                show OGo p e below _ (s₁.setTop (mkF m 67 #[.val (.int p0)] [(.int (1 : Int32))]))
                refine OGo.by (fun _ k => XS.goto X0.here hx rfl (pc0 := 67) (pc' := 71) rfl (hb hby d19_67) (by decide) (by decide) k) ?_
                show OGo p e below _ (s₁.setTop (mkF m 71 #[.val (.int p0)] [(.int (1 : Int32))]))
                obtain ⟨fs, hr, hrun, hended, hW, hsame⟩ := X0.leave (v := some (.int (1 : Int32))) (fun h => by rw [Bd.returns] at h; cases h)
                refine OGo.ret (retN X0 hx (t := .boolean) Bd.returns (by simp) (hb hby d19_71) hr) hrun hended ⟨_, _, rfl, ?_, ⟨_, rfl⟩, hW, hsame.mono (by decide) (by decide)⟩
                show Q_rm19 Z p0 h0 n0 _ s₁.heap _
                rw [e0]
                exact ⟨congrArg (fun z => some (Value.int z)) (by show _ = (own_isA p0); unfold own_isA; rw [if_pos hc3_1, if_pos hc15_2, if_pos hc27_3, if_neg hc39_4, if_neg hc45_5, if_neg hc51_6, if_pos hc57_7]), N0, rfl⟩
              · refine OGo.by (fun _ k => XS.icmpNo X0.here hx rfl (hb hby d19_57) rfl (feq hc57_7).1 k) ?_
                show OGo p e below _ (s₁.setTop (mkF m 60 #[.val (.int p0)] []))
                refine OGo.by (fun _ k => XS.iloadN X0.here hx rfl (hb hby d19_60) rfl k) ?_
                show OGo p e below _ (s₁.setTop (mkF m 61 #[.val (.int p0)] [(.int p0)]))
                refine OGo.by (fun _ k => XS.bipush X0.here hx rfl (hb hby d19_61) k) ?_
                show OGo p e below _ (s₁.setTop (mkF m 63 #[.val (.int p0)] [(.int (47 : Int32)), (.int p0)]))
                by_cases hc63_8 : p0 = (47 : Int32)
                · refine OGo.by (fun _ k => XS.icmpNo X0.here hx rfl (hb hby d19_63) rfl (teq hc63_8).2 k) ?_
                  show OGo p e below _ (s₁.setTop (mkF m 66 #[.val (.int p0)] []))
                  refine OGo.by (fun _ k => XS.iconst X0.here hx rfl (hb hby d19_66) k) ?_
                  show OGo p e below _ (s₁.setTop (mkF m 67 #[.val (.int p0)] [(.int (1 : Int32))]))
                  refine OGo.by (fun _ k => XS.goto X0.here hx rfl (pc0 := 67) (pc' := 71) rfl (hb hby d19_67) (by decide) (by decide) k) ?_
                  show OGo p e below _ (s₁.setTop (mkF m 71 #[.val (.int p0)] [(.int (1 : Int32))]))
                  obtain ⟨fs, hr, hrun, hended, hW, hsame⟩ := X0.leave (v := some (.int (1 : Int32))) (fun h => by rw [Bd.returns] at h; cases h)
                  refine OGo.ret (retN X0 hx (t := .boolean) Bd.returns (by simp) (hb hby d19_71) hr) hrun hended ⟨_, _, rfl, ?_, ⟨_, rfl⟩, hW, hsame.mono (by decide) (by decide)⟩
                  show Q_rm19 Z p0 h0 n0 _ s₁.heap _
                  rw [e0]
                  exact ⟨congrArg (fun z => some (Value.int z)) (by show _ = (own_isA p0); unfold own_isA; rw [if_pos hc3_1, if_pos hc15_2, if_pos hc27_3, if_neg hc39_4, if_neg hc45_5, if_neg hc51_6, if_neg hc57_7, if_pos hc63_8]), N0, rfl⟩
                · refine OGo.by (fun _ k => XS.icmpYes X0.here hx rfl (pc0 := 63) (pc' := 70) rfl (hb hby d19_63) rfl (feq hc63_8).2 (by decide) (by decide) k) ?_
                  show OGo p e below _ (s₁.setTop (mkF m 70 #[.val (.int p0)] []))
                  refine OGo.by (fun _ k => XS.iconst X0.here hx rfl (hb hby d19_70) k) ?_
                  show OGo p e below _ (s₁.setTop (mkF m 71 #[.val (.int p0)] [(.int (0 : Int32))]))
                  obtain ⟨fs, hr, hrun, hended, hW, hsame⟩ := X0.leave (v := some (.int (0 : Int32))) (fun h => by rw [Bd.returns] at h; cases h)
                  refine OGo.ret (retN X0 hx (t := .boolean) Bd.returns (by simp) (hb hby d19_71) hr) hrun hended ⟨_, _, rfl, ?_, ⟨_, rfl⟩, hW, hsame.mono (by decide) (by decide)⟩
                  show Q_rm19 Z p0 h0 n0 _ s₁.heap _
                  rw [e0]
                  exact ⟨congrArg (fun z => some (Value.int z)) (by show _ = (own_isA p0); unfold own_isA; rw [if_pos hc3_1, if_pos hc15_2, if_pos hc27_3, if_neg hc39_4, if_neg hc45_5, if_neg hc51_6, if_neg hc57_7, if_neg hc63_8]), N0, rfl⟩
      · refine OGo.by (fun _ k => XS.icmpNo X0.here hx rfl (hb hby d19_27) rfl (flt hc27_3).1 k) ?_
        show OGo p e below _ (s₁.setTop (mkF m 30 #[.val (.int p0)] []))
        refine OGo.by (fun _ k => XS.iloadN X0.here hx rfl (hb hby d19_30) rfl k) ?_
        show OGo p e below _ (s₁.setTop (mkF m 31 #[.val (.int p0)] [(.int p0)]))
        refine OGo.by (fun _ k => XS.bipush X0.here hx rfl (hb hby d19_31) k) ?_
        show OGo p e below _ (s₁.setTop (mkF m 33 #[.val (.int p0)] [(.int (57 : Int32)), (.int p0)]))
        by_cases hc33_9 : (57 : Int32) < p0
        · refine OGo.by (fun _ k => XS.icmpNo X0.here hx rfl (hb hby d19_33) rfl (tlt hc33_9).2.2.2 k) ?_
          show OGo p e below _ (s₁.setTop (mkF m 36 #[.val (.int p0)] []))
          refine OGo.by (fun _ k => XS.iloadN X0.here hx rfl (hb hby d19_36) rfl k) ?_
          show OGo p e below _ (s₁.setTop (mkF m 37 #[.val (.int p0)] [(.int p0)]))
          refine OGo.by (fun _ k => XS.bipush X0.here hx rfl (hb hby d19_37) k) ?_
          show OGo p e below _ (s₁.setTop (mkF m 39 #[.val (.int p0)] [(.int (46 : Int32)), (.int p0)]))
          by_cases hc39_10 : p0 = (46 : Int32)
          · refine OGo.by (fun _ k => XS.icmpYes X0.here hx rfl (pc0 := 39) (pc' := 66) rfl (hb hby d19_39) rfl (teq hc39_10).1 (by decide) (by decide) k) ?_
            show OGo p e below _ (s₁.setTop (mkF m 66 #[.val (.int p0)] []))
            refine OGo.by (fun _ k => XS.iconst X0.here hx rfl (hb hby d19_66) k) ?_
            show OGo p e below _ (s₁.setTop (mkF m 67 #[.val (.int p0)] [(.int (1 : Int32))]))
            refine OGo.by (fun _ k => XS.goto X0.here hx rfl (pc0 := 67) (pc' := 71) rfl (hb hby d19_67) (by decide) (by decide) k) ?_
            show OGo p e below _ (s₁.setTop (mkF m 71 #[.val (.int p0)] [(.int (1 : Int32))]))
            obtain ⟨fs, hr, hrun, hended, hW, hsame⟩ := X0.leave (v := some (.int (1 : Int32))) (fun h => by rw [Bd.returns] at h; cases h)
            refine OGo.ret (retN X0 hx (t := .boolean) Bd.returns (by simp) (hb hby d19_71) hr) hrun hended ⟨_, _, rfl, ?_, ⟨_, rfl⟩, hW, hsame.mono (by decide) (by decide)⟩
            show Q_rm19 Z p0 h0 n0 _ s₁.heap _
            rw [e0]
            exact ⟨congrArg (fun z => some (Value.int z)) (by show _ = (own_isA p0); unfold own_isA; rw [if_pos hc3_1, if_pos hc15_2, if_neg hc27_3, if_pos hc33_9, if_pos hc39_10]), N0, rfl⟩
          · refine OGo.by (fun _ k => XS.icmpNo X0.here hx rfl (hb hby d19_39) rfl (feq hc39_10).1 k) ?_
            show OGo p e below _ (s₁.setTop (mkF m 42 #[.val (.int p0)] []))
            refine OGo.by (fun _ k => XS.iloadN X0.here hx rfl (hb hby d19_42) rfl k) ?_
            show OGo p e below _ (s₁.setTop (mkF m 43 #[.val (.int p0)] [(.int p0)]))
            refine OGo.by (fun _ k => XS.bipush X0.here hx rfl (hb hby d19_43) k) ?_
            show OGo p e below _ (s₁.setTop (mkF m 45 #[.val (.int p0)] [(.int (95 : Int32)), (.int p0)]))
            by_cases hc45_11 : p0 = (95 : Int32)
            · refine OGo.by (fun _ k => XS.icmpYes X0.here hx rfl (pc0 := 45) (pc' := 66) rfl (hb hby d19_45) rfl (teq hc45_11).1 (by decide) (by decide) k) ?_
              show OGo p e below _ (s₁.setTop (mkF m 66 #[.val (.int p0)] []))
              refine OGo.by (fun _ k => XS.iconst X0.here hx rfl (hb hby d19_66) k) ?_
              show OGo p e below _ (s₁.setTop (mkF m 67 #[.val (.int p0)] [(.int (1 : Int32))]))
              refine OGo.by (fun _ k => XS.goto X0.here hx rfl (pc0 := 67) (pc' := 71) rfl (hb hby d19_67) (by decide) (by decide) k) ?_
              show OGo p e below _ (s₁.setTop (mkF m 71 #[.val (.int p0)] [(.int (1 : Int32))]))
              obtain ⟨fs, hr, hrun, hended, hW, hsame⟩ := X0.leave (v := some (.int (1 : Int32))) (fun h => by rw [Bd.returns] at h; cases h)
              refine OGo.ret (retN X0 hx (t := .boolean) Bd.returns (by simp) (hb hby d19_71) hr) hrun hended ⟨_, _, rfl, ?_, ⟨_, rfl⟩, hW, hsame.mono (by decide) (by decide)⟩
              show Q_rm19 Z p0 h0 n0 _ s₁.heap _
              rw [e0]
              exact ⟨congrArg (fun z => some (Value.int z)) (by show _ = (own_isA p0); unfold own_isA; rw [if_pos hc3_1, if_pos hc15_2, if_neg hc27_3, if_pos hc33_9, if_neg hc39_10, if_pos hc45_11]), N0, rfl⟩
            · refine OGo.by (fun _ k => XS.icmpNo X0.here hx rfl (hb hby d19_45) rfl (feq hc45_11).1 k) ?_
              show OGo p e below _ (s₁.setTop (mkF m 48 #[.val (.int p0)] []))
              refine OGo.by (fun _ k => XS.iloadN X0.here hx rfl (hb hby d19_48) rfl k) ?_
              show OGo p e below _ (s₁.setTop (mkF m 49 #[.val (.int p0)] [(.int p0)]))
              refine OGo.by (fun _ k => XS.bipush X0.here hx rfl (hb hby d19_49) k) ?_
              show OGo p e below _ (s₁.setTop (mkF m 51 #[.val (.int p0)] [(.int (45 : Int32)), (.int p0)]))
              by_cases hc51_12 : p0 = (45 : Int32)
              · refine OGo.by (fun _ k => XS.icmpYes X0.here hx rfl (pc0 := 51) (pc' := 66) rfl (hb hby d19_51) rfl (teq hc51_12).1 (by decide) (by decide) k) ?_
                show OGo p e below _ (s₁.setTop (mkF m 66 #[.val (.int p0)] []))
                refine OGo.by (fun _ k => XS.iconst X0.here hx rfl (hb hby d19_66) k) ?_
                show OGo p e below _ (s₁.setTop (mkF m 67 #[.val (.int p0)] [(.int (1 : Int32))]))
                refine OGo.by (fun _ k => XS.goto X0.here hx rfl (pc0 := 67) (pc' := 71) rfl (hb hby d19_67) (by decide) (by decide) k) ?_
                show OGo p e below _ (s₁.setTop (mkF m 71 #[.val (.int p0)] [(.int (1 : Int32))]))
                obtain ⟨fs, hr, hrun, hended, hW, hsame⟩ := X0.leave (v := some (.int (1 : Int32))) (fun h => by rw [Bd.returns] at h; cases h)
                refine OGo.ret (retN X0 hx (t := .boolean) Bd.returns (by simp) (hb hby d19_71) hr) hrun hended ⟨_, _, rfl, ?_, ⟨_, rfl⟩, hW, hsame.mono (by decide) (by decide)⟩
                show Q_rm19 Z p0 h0 n0 _ s₁.heap _
                rw [e0]
                exact ⟨congrArg (fun z => some (Value.int z)) (by show _ = (own_isA p0); unfold own_isA; rw [if_pos hc3_1, if_pos hc15_2, if_neg hc27_3, if_pos hc33_9, if_neg hc39_10, if_neg hc45_11, if_pos hc51_12]), N0, rfl⟩
              · refine OGo.by (fun _ k => XS.icmpNo X0.here hx rfl (hb hby d19_51) rfl (feq hc51_12).1 k) ?_
                show OGo p e below _ (s₁.setTop (mkF m 54 #[.val (.int p0)] []))
                refine OGo.by (fun _ k => XS.iloadN X0.here hx rfl (hb hby d19_54) rfl k) ?_
                show OGo p e below _ (s₁.setTop (mkF m 55 #[.val (.int p0)] [(.int p0)]))
                refine OGo.by (fun _ k => XS.bipush X0.here hx rfl (hb hby d19_55) k) ?_
                show OGo p e below _ (s₁.setTop (mkF m 57 #[.val (.int p0)] [(.int (58 : Int32)), (.int p0)]))
                by_cases hc57_13 : p0 = (58 : Int32)
                · refine OGo.by (fun _ k => XS.icmpYes X0.here hx rfl (pc0 := 57) (pc' := 66) rfl (hb hby d19_57) rfl (teq hc57_13).1 (by decide) (by decide) k) ?_
                  show OGo p e below _ (s₁.setTop (mkF m 66 #[.val (.int p0)] []))
                  refine OGo.by (fun _ k => XS.iconst X0.here hx rfl (hb hby d19_66) k) ?_
                  show OGo p e below _ (s₁.setTop (mkF m 67 #[.val (.int p0)] [(.int (1 : Int32))]))
                  refine OGo.by (fun _ k => XS.goto X0.here hx rfl (pc0 := 67) (pc' := 71) rfl (hb hby d19_67) (by decide) (by decide) k) ?_
                  show OGo p e below _ (s₁.setTop (mkF m 71 #[.val (.int p0)] [(.int (1 : Int32))]))
                  obtain ⟨fs, hr, hrun, hended, hW, hsame⟩ := X0.leave (v := some (.int (1 : Int32))) (fun h => by rw [Bd.returns] at h; cases h)
                  refine OGo.ret (retN X0 hx (t := .boolean) Bd.returns (by simp) (hb hby d19_71) hr) hrun hended ⟨_, _, rfl, ?_, ⟨_, rfl⟩, hW, hsame.mono (by decide) (by decide)⟩
                  show Q_rm19 Z p0 h0 n0 _ s₁.heap _
                  rw [e0]
                  exact ⟨congrArg (fun z => some (Value.int z)) (by show _ = (own_isA p0); unfold own_isA; rw [if_pos hc3_1, if_pos hc15_2, if_neg hc27_3, if_pos hc33_9, if_neg hc39_10, if_neg hc45_11, if_neg hc51_12, if_pos hc57_13]), N0, rfl⟩
                · refine OGo.by (fun _ k => XS.icmpNo X0.here hx rfl (hb hby d19_57) rfl (feq hc57_13).1 k) ?_
                  show OGo p e below _ (s₁.setTop (mkF m 60 #[.val (.int p0)] []))
                  refine OGo.by (fun _ k => XS.iloadN X0.here hx rfl (hb hby d19_60) rfl k) ?_
                  show OGo p e below _ (s₁.setTop (mkF m 61 #[.val (.int p0)] [(.int p0)]))
                  refine OGo.by (fun _ k => XS.bipush X0.here hx rfl (hb hby d19_61) k) ?_
                  show OGo p e below _ (s₁.setTop (mkF m 63 #[.val (.int p0)] [(.int (47 : Int32)), (.int p0)]))
                  by_cases hc63_14 : p0 = (47 : Int32)
                  · refine OGo.by (fun _ k => XS.icmpNo X0.here hx rfl (hb hby d19_63) rfl (teq hc63_14).2 k) ?_
                    show OGo p e below _ (s₁.setTop (mkF m 66 #[.val (.int p0)] []))
                    refine OGo.by (fun _ k => XS.iconst X0.here hx rfl (hb hby d19_66) k) ?_
                    show OGo p e below _ (s₁.setTop (mkF m 67 #[.val (.int p0)] [(.int (1 : Int32))]))
                    refine OGo.by (fun _ k => XS.goto X0.here hx rfl (pc0 := 67) (pc' := 71) rfl (hb hby d19_67) (by decide) (by decide) k) ?_
                    show OGo p e below _ (s₁.setTop (mkF m 71 #[.val (.int p0)] [(.int (1 : Int32))]))
                    obtain ⟨fs, hr, hrun, hended, hW, hsame⟩ := X0.leave (v := some (.int (1 : Int32))) (fun h => by rw [Bd.returns] at h; cases h)
                    refine OGo.ret (retN X0 hx (t := .boolean) Bd.returns (by simp) (hb hby d19_71) hr) hrun hended ⟨_, _, rfl, ?_, ⟨_, rfl⟩, hW, hsame.mono (by decide) (by decide)⟩
                    show Q_rm19 Z p0 h0 n0 _ s₁.heap _
                    rw [e0]
                    exact ⟨congrArg (fun z => some (Value.int z)) (by show _ = (own_isA p0); unfold own_isA; rw [if_pos hc3_1, if_pos hc15_2, if_neg hc27_3, if_pos hc33_9, if_neg hc39_10, if_neg hc45_11, if_neg hc51_12, if_neg hc57_13, if_pos hc63_14]), N0, rfl⟩
                  · refine OGo.by (fun _ k => XS.icmpYes X0.here hx rfl (pc0 := 63) (pc' := 70) rfl (hb hby d19_63) rfl (feq hc63_14).2 (by decide) (by decide) k) ?_
                    show OGo p e below _ (s₁.setTop (mkF m 70 #[.val (.int p0)] []))
                    refine OGo.by (fun _ k => XS.iconst X0.here hx rfl (hb hby d19_70) k) ?_
                    show OGo p e below _ (s₁.setTop (mkF m 71 #[.val (.int p0)] [(.int (0 : Int32))]))
                    obtain ⟨fs, hr, hrun, hended, hW, hsame⟩ := X0.leave (v := some (.int (0 : Int32))) (fun h => by rw [Bd.returns] at h; cases h)
                    refine OGo.ret (retN X0 hx (t := .boolean) Bd.returns (by simp) (hb hby d19_71) hr) hrun hended ⟨_, _, rfl, ?_, ⟨_, rfl⟩, hW, hsame.mono (by decide) (by decide)⟩
                    show Q_rm19 Z p0 h0 n0 _ s₁.heap _
                    rw [e0]
                    exact ⟨congrArg (fun z => some (Value.int z)) (by show _ = (own_isA p0); unfold own_isA; rw [if_pos hc3_1, if_pos hc15_2, if_neg hc27_3, if_pos hc33_9, if_neg hc39_10, if_neg hc45_11, if_neg hc51_12, if_neg hc57_13, if_neg hc63_14]), N0, rfl⟩
        · refine OGo.by (fun _ k => XS.icmpYes X0.here hx rfl (pc0 := 33) (pc' := 66) rfl (hb hby d19_33) rfl (flt hc33_9).2.2.2 (by decide) (by decide) k) ?_
          show OGo p e below _ (s₁.setTop (mkF m 66 #[.val (.int p0)] []))
          refine OGo.by (fun _ k => XS.iconst X0.here hx rfl (hb hby d19_66) k) ?_
          show OGo p e below _ (s₁.setTop (mkF m 67 #[.val (.int p0)] [(.int (1 : Int32))]))
          refine OGo.by (fun _ k => XS.goto X0.here hx rfl (pc0 := 67) (pc' := 71) rfl (hb hby d19_67) (by decide) (by decide) k) ?_
          show OGo p e below _ (s₁.setTop (mkF m 71 #[.val (.int p0)] [(.int (1 : Int32))]))
          obtain ⟨fs, hr, hrun, hended, hW, hsame⟩ := X0.leave (v := some (.int (1 : Int32))) (fun h => by rw [Bd.returns] at h; cases h)
          refine OGo.ret (retN X0 hx (t := .boolean) Bd.returns (by simp) (hb hby d19_71) hr) hrun hended ⟨_, _, rfl, ?_, ⟨_, rfl⟩, hW, hsame.mono (by decide) (by decide)⟩
          show Q_rm19 Z p0 h0 n0 _ s₁.heap _
          rw [e0]
          exact ⟨congrArg (fun z => some (Value.int z)) (by show _ = (own_isA p0); unfold own_isA; rw [if_pos hc3_1, if_pos hc15_2, if_neg hc27_3, if_neg hc33_9]), N0, rfl⟩
    · refine OGo.by (fun _ k => XS.icmpNo X0.here hx rfl (hb hby d19_15) rfl (flt hc15_2).1 k) ?_
      show OGo p e below _ (s₁.setTop (mkF m 18 #[.val (.int p0)] []))
      refine OGo.by (fun _ k => XS.iloadN X0.here hx rfl (hb hby d19_18) rfl k) ?_
      show OGo p e below _ (s₁.setTop (mkF m 19 #[.val (.int p0)] [(.int p0)]))
      refine OGo.by (fun _ k => XS.bipush X0.here hx rfl (hb hby d19_19) k) ?_
      show OGo p e below _ (s₁.setTop (mkF m 21 #[.val (.int p0)] [(.int (122 : Int32)), (.int p0)]))
      by_cases hc21_15 : (122 : Int32) < p0
      · refine OGo.by (fun _ k => XS.icmpNo X0.here hx rfl (hb hby d19_21) rfl (tlt hc21_15).2.2.2 k) ?_
        show OGo p e below _ (s₁.setTop (mkF m 24 #[.val (.int p0)] []))
        refine OGo.by (fun _ k => XS.iloadN X0.here hx rfl (hb hby d19_24) rfl k) ?_
        show OGo p e below _ (s₁.setTop (mkF m 25 #[.val (.int p0)] [(.int p0)]))
        refine OGo.by (fun _ k => XS.bipush X0.here hx rfl (hb hby d19_25) k) ?_
        show OGo p e below _ (s₁.setTop (mkF m 27 #[.val (.int p0)] [(.int (48 : Int32)), (.int p0)]))
        by_cases hc27_16 : p0 < (48 : Int32)
        · refine OGo.by (fun _ k => XS.icmpYes X0.here hx rfl (pc0 := 27) (pc' := 36) rfl (hb hby d19_27) rfl (tlt hc27_16).1 (by decide) (by decide) k) ?_
          show OGo p e below _ (s₁.setTop (mkF m 36 #[.val (.int p0)] []))
          refine OGo.by (fun _ k => XS.iloadN X0.here hx rfl (hb hby d19_36) rfl k) ?_
          show OGo p e below _ (s₁.setTop (mkF m 37 #[.val (.int p0)] [(.int p0)]))
          refine OGo.by (fun _ k => XS.bipush X0.here hx rfl (hb hby d19_37) k) ?_
          show OGo p e below _ (s₁.setTop (mkF m 39 #[.val (.int p0)] [(.int (46 : Int32)), (.int p0)]))
          by_cases hc39_17 : p0 = (46 : Int32)
          · refine OGo.by (fun _ k => XS.icmpYes X0.here hx rfl (pc0 := 39) (pc' := 66) rfl (hb hby d19_39) rfl (teq hc39_17).1 (by decide) (by decide) k) ?_
            show OGo p e below _ (s₁.setTop (mkF m 66 #[.val (.int p0)] []))
            refine OGo.by (fun _ k => XS.iconst X0.here hx rfl (hb hby d19_66) k) ?_
            show OGo p e below _ (s₁.setTop (mkF m 67 #[.val (.int p0)] [(.int (1 : Int32))]))
            refine OGo.by (fun _ k => XS.goto X0.here hx rfl (pc0 := 67) (pc' := 71) rfl (hb hby d19_67) (by decide) (by decide) k) ?_
            show OGo p e below _ (s₁.setTop (mkF m 71 #[.val (.int p0)] [(.int (1 : Int32))]))
            obtain ⟨fs, hr, hrun, hended, hW, hsame⟩ := X0.leave (v := some (.int (1 : Int32))) (fun h => by rw [Bd.returns] at h; cases h)
            refine OGo.ret (retN X0 hx (t := .boolean) Bd.returns (by simp) (hb hby d19_71) hr) hrun hended ⟨_, _, rfl, ?_, ⟨_, rfl⟩, hW, hsame.mono (by decide) (by decide)⟩
            show Q_rm19 Z p0 h0 n0 _ s₁.heap _
            rw [e0]
            exact ⟨congrArg (fun z => some (Value.int z)) (by show _ = (own_isA p0); unfold own_isA; rw [if_pos hc3_1, if_neg hc15_2, if_pos hc21_15, if_pos hc27_16, if_pos hc39_17]), N0, rfl⟩
          · refine OGo.by (fun _ k => XS.icmpNo X0.here hx rfl (hb hby d19_39) rfl (feq hc39_17).1 k) ?_
            show OGo p e below _ (s₁.setTop (mkF m 42 #[.val (.int p0)] []))
            refine OGo.by (fun _ k => XS.iloadN X0.here hx rfl (hb hby d19_42) rfl k) ?_
            show OGo p e below _ (s₁.setTop (mkF m 43 #[.val (.int p0)] [(.int p0)]))
            refine OGo.by (fun _ k => XS.bipush X0.here hx rfl (hb hby d19_43) k) ?_
            show OGo p e below _ (s₁.setTop (mkF m 45 #[.val (.int p0)] [(.int (95 : Int32)), (.int p0)]))
            by_cases hc45_18 : p0 = (95 : Int32)
            · refine OGo.by (fun _ k => XS.icmpYes X0.here hx rfl (pc0 := 45) (pc' := 66) rfl (hb hby d19_45) rfl (teq hc45_18).1 (by decide) (by decide) k) ?_
              show OGo p e below _ (s₁.setTop (mkF m 66 #[.val (.int p0)] []))
              refine OGo.by (fun _ k => XS.iconst X0.here hx rfl (hb hby d19_66) k) ?_
              show OGo p e below _ (s₁.setTop (mkF m 67 #[.val (.int p0)] [(.int (1 : Int32))]))
              refine OGo.by (fun _ k => XS.goto X0.here hx rfl (pc0 := 67) (pc' := 71) rfl (hb hby d19_67) (by decide) (by decide) k) ?_
              show OGo p e below _ (s₁.setTop (mkF m 71 #[.val (.int p0)] [(.int (1 : Int32))]))
              obtain ⟨fs, hr, hrun, hended, hW, hsame⟩ := X0.leave (v := some (.int (1 : Int32))) (fun h => by rw [Bd.returns] at h; cases h)
              refine OGo.ret (retN X0 hx (t := .boolean) Bd.returns (by simp) (hb hby d19_71) hr) hrun hended ⟨_, _, rfl, ?_, ⟨_, rfl⟩, hW, hsame.mono (by decide) (by decide)⟩
              show Q_rm19 Z p0 h0 n0 _ s₁.heap _
              rw [e0]
              exact ⟨congrArg (fun z => some (Value.int z)) (by show _ = (own_isA p0); unfold own_isA; rw [if_pos hc3_1, if_neg hc15_2, if_pos hc21_15, if_pos hc27_16, if_neg hc39_17, if_pos hc45_18]), N0, rfl⟩
            · refine OGo.by (fun _ k => XS.icmpNo X0.here hx rfl (hb hby d19_45) rfl (feq hc45_18).1 k) ?_
              show OGo p e below _ (s₁.setTop (mkF m 48 #[.val (.int p0)] []))
              refine OGo.by (fun _ k => XS.iloadN X0.here hx rfl (hb hby d19_48) rfl k) ?_
              show OGo p e below _ (s₁.setTop (mkF m 49 #[.val (.int p0)] [(.int p0)]))
              refine OGo.by (fun _ k => XS.bipush X0.here hx rfl (hb hby d19_49) k) ?_
              show OGo p e below _ (s₁.setTop (mkF m 51 #[.val (.int p0)] [(.int (45 : Int32)), (.int p0)]))
              by_cases hc51_19 : p0 = (45 : Int32)
              · refine OGo.by (fun _ k => XS.icmpYes X0.here hx rfl (pc0 := 51) (pc' := 66) rfl (hb hby d19_51) rfl (teq hc51_19).1 (by decide) (by decide) k) ?_
                show OGo p e below _ (s₁.setTop (mkF m 66 #[.val (.int p0)] []))
                refine OGo.by (fun _ k => XS.iconst X0.here hx rfl (hb hby d19_66) k) ?_
                show OGo p e below _ (s₁.setTop (mkF m 67 #[.val (.int p0)] [(.int (1 : Int32))]))
                refine OGo.by (fun _ k => XS.goto X0.here hx rfl (pc0 := 67) (pc' := 71) rfl (hb hby d19_67) (by decide) (by decide) k) ?_
                show OGo p e below _ (s₁.setTop (mkF m 71 #[.val (.int p0)] [(.int (1 : Int32))]))
                obtain ⟨fs, hr, hrun, hended, hW, hsame⟩ := X0.leave (v := some (.int (1 : Int32))) (fun h => by rw [Bd.returns] at h; cases h)
                refine OGo.ret (retN X0 hx (t := .boolean) Bd.returns (by simp) (hb hby d19_71) hr) hrun hended ⟨_, _, rfl, ?_, ⟨_, rfl⟩, hW, hsame.mono (by decide) (by decide)⟩
                show Q_rm19 Z p0 h0 n0 _ s₁.heap _
                rw [e0]
                exact ⟨congrArg (fun z => some (Value.int z)) (by show _ = (own_isA p0); unfold own_isA; rw [if_pos hc3_1, if_neg hc15_2, if_pos hc21_15, if_pos hc27_16, if_neg hc39_17, if_neg hc45_18, if_pos hc51_19]), N0, rfl⟩
              · refine OGo.by (fun _ k => XS.icmpNo X0.here hx rfl (hb hby d19_51) rfl (feq hc51_19).1 k) ?_
                show OGo p e below _ (s₁.setTop (mkF m 54 #[.val (.int p0)] []))
                refine OGo.by (fun _ k => XS.iloadN X0.here hx rfl (hb hby d19_54) rfl k) ?_
                show OGo p e below _ (s₁.setTop (mkF m 55 #[.val (.int p0)] [(.int p0)]))
                refine OGo.by (fun _ k => XS.bipush X0.here hx rfl (hb hby d19_55) k) ?_
                show OGo p e below _ (s₁.setTop (mkF m 57 #[.val (.int p0)] [(.int (58 : Int32)), (.int p0)]))
                by_cases hc57_20 : p0 = (58 : Int32)
                · refine OGo.by (fun _ k => XS.icmpYes X0.here hx rfl (pc0 := 57) (pc' := 66) rfl (hb hby d19_57) rfl (teq hc57_20).1 (by decide) (by decide) k) ?_
                  show OGo p e below _ (s₁.setTop (mkF m 66 #[.val (.int p0)] []))
                  refine OGo.by (fun _ k => XS.iconst X0.here hx rfl (hb hby d19_66) k) ?_
                  show OGo p e below _ (s₁.setTop (mkF m 67 #[.val (.int p0)] [(.int (1 : Int32))]))
                  refine OGo.by (fun _ k => XS.goto X0.here hx rfl (pc0 := 67) (pc' := 71) rfl (hb hby d19_67) (by decide) (by decide) k) ?_
                  show OGo p e below _ (s₁.setTop (mkF m 71 #[.val (.int p0)] [(.int (1 : Int32))]))
                  obtain ⟨fs, hr, hrun, hended, hW, hsame⟩ := X0.leave (v := some (.int (1 : Int32))) (fun h => by rw [Bd.returns] at h; cases h)
                  refine OGo.ret (retN X0 hx (t := .boolean) Bd.returns (by simp) (hb hby d19_71) hr) hrun hended ⟨_, _, rfl, ?_, ⟨_, rfl⟩, hW, hsame.mono (by decide) (by decide)⟩
                  show Q_rm19 Z p0 h0 n0 _ s₁.heap _
                  rw [e0]
                  exact ⟨congrArg (fun z => some (Value.int z)) (by show _ = (own_isA p0); unfold own_isA; rw [if_pos hc3_1, if_neg hc15_2, if_pos hc21_15, if_pos hc27_16, if_neg hc39_17, if_neg hc45_18, if_neg hc51_19, if_pos hc57_20]), N0, rfl⟩
                · refine OGo.by (fun _ k => XS.icmpNo X0.here hx rfl (hb hby d19_57) rfl (feq hc57_20).1 k) ?_
                  show OGo p e below _ (s₁.setTop (mkF m 60 #[.val (.int p0)] []))
                  refine OGo.by (fun _ k => XS.iloadN X0.here hx rfl (hb hby d19_60) rfl k) ?_
                  show OGo p e below _ (s₁.setTop (mkF m 61 #[.val (.int p0)] [(.int p0)]))
                  refine OGo.by (fun _ k => XS.bipush X0.here hx rfl (hb hby d19_61) k) ?_
                  show OGo p e below _ (s₁.setTop (mkF m 63 #[.val (.int p0)] [(.int (47 : Int32)), (.int p0)]))
                  by_cases hc63_21 : p0 = (47 : Int32)
                  · refine OGo.by (fun _ k => XS.icmpNo X0.here hx rfl (hb hby d19_63) rfl (teq hc63_21).2 k) ?_
                    show OGo p e below _ (s₁.setTop (mkF m 66 #[.val (.int p0)] []))
                    refine OGo.by (fun _ k => XS.iconst X0.here hx rfl (hb hby d19_66) k) ?_
                    show OGo p e below _ (s₁.setTop (mkF m 67 #[.val (.int p0)] [(.int (1 : Int32))]))
                    refine OGo.by (fun _ k => XS.goto X0.here hx rfl (pc0 := 67) (pc' := 71) rfl (hb hby d19_67) (by decide) (by decide) k) ?_
                    show OGo p e below _ (s₁.setTop (mkF m 71 #[.val (.int p0)] [(.int (1 : Int32))]))
                    obtain ⟨fs, hr, hrun, hended, hW, hsame⟩ := X0.leave (v := some (.int (1 : Int32))) (fun h => by rw [Bd.returns] at h; cases h)
                    refine OGo.ret (retN X0 hx (t := .boolean) Bd.returns (by simp) (hb hby d19_71) hr) hrun hended ⟨_, _, rfl, ?_, ⟨_, rfl⟩, hW, hsame.mono (by decide) (by decide)⟩
                    show Q_rm19 Z p0 h0 n0 _ s₁.heap _
                    rw [e0]
                    exact ⟨congrArg (fun z => some (Value.int z)) (by show _ = (own_isA p0); unfold own_isA; rw [if_pos hc3_1, if_neg hc15_2, if_pos hc21_15, if_pos hc27_16, if_neg hc39_17, if_neg hc45_18, if_neg hc51_19, if_neg hc57_20, if_pos hc63_21]), N0, rfl⟩
                  · refine OGo.by (fun _ k => XS.icmpYes X0.here hx rfl (pc0 := 63) (pc' := 70) rfl (hb hby d19_63) rfl (feq hc63_21).2 (by decide) (by decide) k) ?_
                    show OGo p e below _ (s₁.setTop (mkF m 70 #[.val (.int p0)] []))
                    refine OGo.by (fun _ k => XS.iconst X0.here hx rfl (hb hby d19_70) k) ?_
                    show OGo p e below _ (s₁.setTop (mkF m 71 #[.val (.int p0)] [(.int (0 : Int32))]))
                    obtain ⟨fs, hr, hrun, hended, hW, hsame⟩ := X0.leave (v := some (.int (0 : Int32))) (fun h => by rw [Bd.returns] at h; cases h)
                    refine OGo.ret (retN X0 hx (t := .boolean) Bd.returns (by simp) (hb hby d19_71) hr) hrun hended ⟨_, _, rfl, ?_, ⟨_, rfl⟩, hW, hsame.mono (by decide) (by decide)⟩
                    show Q_rm19 Z p0 h0 n0 _ s₁.heap _
                    rw [e0]
                    exact ⟨congrArg (fun z => some (Value.int z)) (by show _ = (own_isA p0); unfold own_isA; rw [if_pos hc3_1, if_neg hc15_2, if_pos hc21_15, if_pos hc27_16, if_neg hc39_17, if_neg hc45_18, if_neg hc51_19, if_neg hc57_20, if_neg hc63_21]), N0, rfl⟩
        · refine OGo.by (fun _ k => XS.icmpNo X0.here hx rfl (hb hby d19_27) rfl (flt hc27_16).1 k) ?_
          show OGo p e below _ (s₁.setTop (mkF m 30 #[.val (.int p0)] []))
          refine OGo.by (fun _ k => XS.iloadN X0.here hx rfl (hb hby d19_30) rfl k) ?_
          show OGo p e below _ (s₁.setTop (mkF m 31 #[.val (.int p0)] [(.int p0)]))
          refine OGo.by (fun _ k => XS.bipush X0.here hx rfl (hb hby d19_31) k) ?_
          show OGo p e below _ (s₁.setTop (mkF m 33 #[.val (.int p0)] [(.int (57 : Int32)), (.int p0)]))
          by_cases hc33_22 : (57 : Int32) < p0
          · refine OGo.by (fun _ k => XS.icmpNo X0.here hx rfl (hb hby d19_33) rfl (tlt hc33_22).2.2.2 k) ?_
            show OGo p e below _ (s₁.setTop (mkF m 36 #[.val (.int p0)] []))
            refine OGo.by (fun _ k => XS.iloadN X0.here hx rfl (hb hby d19_36) rfl k) ?_
            show OGo p e below _ (s₁.setTop (mkF m 37 #[.val (.int p0)] [(.int p0)]))
            refine OGo.by (fun _ k => XS.bipush X0.here hx rfl (hb hby d19_37) k) ?_
            show OGo p e below _ (s₁.setTop (mkF m 39 #[.val (.int p0)] [(.int (46 : Int32)), (.int p0)]))
            by_cases hc39_23 : p0 = (46 : Int32)
            · refine OGo.by (fun _ k => XS.icmpYes X0.here hx rfl (pc0 := 39) (pc' := 66) rfl (hb hby d19_39) rfl (teq hc39_23).1 (by decide) (by decide) k) ?_
              show OGo p e below _ (s₁.setTop (mkF m 66 #[.val (.int p0)] []))
              refine OGo.by (fun _ k => XS.iconst X0.here hx rfl (hb hby d19_66) k) ?_
              show OGo p e below _ (s₁.setTop (mkF m 67 #[.val (.int p0)] [(.int (1 : Int32))]))
              refine OGo.by (fun _ k => XS.goto X0.here hx rfl (pc0 := 67) (pc' := 71) rfl (hb hby d19_67) (by decide) (by decide) k) ?_
              show OGo p e below _ (s₁.setTop (mkF m 71 #[.val (.int p0)] [(.int (1 : Int32))]))
              obtain ⟨fs, hr, hrun, hended, hW, hsame⟩ := X0.leave (v := some (.int (1 : Int32))) (fun h => by rw [Bd.returns] at h; cases h)
              refine OGo.ret (retN X0 hx (t := .boolean) Bd.returns (by simp) (hb hby d19_71) hr) hrun hended ⟨_, _, rfl, ?_, ⟨_, rfl⟩, hW, hsame.mono (by decide) (by decide)⟩
              show Q_rm19 Z p0 h0 n0 _ s₁.heap _
              rw [e0]
              exact ⟨congrArg (fun z => some (Value.int z)) (by show _ = (own_isA p0); unfold own_isA; rw [if_pos hc3_1, if_neg hc15_2, if_pos hc21_15, if_neg hc27_16, if_pos hc33_22, if_pos hc39_23]), N0, rfl⟩
            · refine OGo.by (fun _ k => XS.icmpNo X0.here hx rfl (hb hby d19_39) rfl (feq hc39_23).1 k) ?_
              show OGo p e below _ (s₁.setTop (mkF m 42 #[.val (.int p0)] []))
              refine OGo.by (fun _ k => XS.iloadN X0.here hx rfl (hb hby d19_42) rfl k) ?_
              show OGo p e below _ (s₁.setTop (mkF m 43 #[.val (.int p0)] [(.int p0)]))
              refine OGo.by (fun _ k => XS.bipush X0.here hx rfl (hb hby d19_43) k) ?_
              show OGo p e below _ (s₁.setTop (mkF m 45 #[.val (.int p0)] [(.int (95 : Int32)), (.int p0)]))
              by_cases hc45_24 : p0 = (95 : Int32)
              · refine OGo.by (fun _ k => XS.icmpYes X0.here hx rfl (pc0 := 45) (pc' := 66) rfl (hb hby d19_45) rfl (teq hc45_24).1 (by decide) (by decide) k) ?_
                show OGo p e below _ (s₁.setTop (mkF m 66 #[.val (.int p0)] []))
                refine OGo.by (fun _ k => XS.iconst X0.here hx rfl (hb hby d19_66) k) ?_
                show OGo p e below _ (s₁.setTop (mkF m 67 #[.val (.int p0)] [(.int (1 : Int32))]))
                refine OGo.by (fun _ k => XS.goto X0.here hx rfl (pc0 := 67) (pc' := 71) rfl (hb hby d19_67) (by decide) (by decide) k) ?_
                show OGo p e below _ (s₁.setTop (mkF m 71 #[.val (.int p0)] [(.int (1 : Int32))]))
                obtain ⟨fs, hr, hrun, hended, hW, hsame⟩ := X0.leave (v := some (.int (1 : Int32))) (fun h => by rw [Bd.returns] at h; cases h)
                refine OGo.ret (retN X0 hx (t := .boolean) Bd.returns (by simp) (hb hby d19_71) hr) hrun hended ⟨_, _, rfl, ?_, ⟨_, rfl⟩, hW, hsame.mono (by decide) (by decide)⟩
                show Q_rm19 Z p0 h0 n0 _ s₁.heap _
                rw [e0]
                exact ⟨congrArg (fun z => some (Value.int z)) (by show _ = (own_isA p0); unfold own_isA; rw [if_pos hc3_1, if_neg hc15_2, if_pos hc21_15, if_neg hc27_16, if_pos hc33_22, if_neg hc39_23, if_pos hc45_24]), N0, rfl⟩
              · refine OGo.by (fun _ k => XS.icmpNo X0.here hx rfl (hb hby d19_45) rfl (feq hc45_24).1 k) ?_
                show OGo p e below _ (s₁.setTop (mkF m 48 #[.val (.int p0)] []))
                refine OGo.by (fun _ k => XS.iloadN X0.here hx rfl (hb hby d19_48) rfl k) ?_
                show OGo p e below _ (s₁.setTop (mkF m 49 #[.val (.int p0)] [(.int p0)]))
                refine OGo.by (fun _ k => XS.bipush X0.here hx rfl (hb hby d19_49) k) ?_
                show OGo p e below _ (s₁.setTop (mkF m 51 #[.val (.int p0)] [(.int (45 : Int32)), (.int p0)]))
                by_cases hc51_25 : p0 = (45 : Int32)
                · refine OGo.by (fun _ k => XS.icmpYes X0.here hx rfl (pc0 := 51) (pc' := 66) rfl (hb hby d19_51) rfl (teq hc51_25).1 (by decide) (by decide) k) ?_
                  show OGo p e below _ (s₁.setTop (mkF m 66 #[.val (.int p0)] []))
                  refine OGo.by (fun _ k => XS.iconst X0.here hx rfl (hb hby d19_66) k) ?_
                  show OGo p e below _ (s₁.setTop (mkF m 67 #[.val (.int p0)] [(.int (1 : Int32))]))
                  refine OGo.by (fun _ k => XS.goto X0.here hx rfl (pc0 := 67) (pc' := 71) rfl (hb hby d19_67) (by decide) (by decide) k) ?_
                  show OGo p e below _ (s₁.setTop (mkF m 71 #[.val (.int p0)] [(.int (1 : Int32))]))
                  obtain ⟨fs, hr, hrun, hended, hW, hsame⟩ := X0.leave (v := some (.int (1 : Int32))) (fun h => by rw [Bd.returns] at h; cases h)
                  refine OGo.ret (retN X0 hx (t := .boolean) Bd.returns (by simp) (hb hby d19_71) hr) hrun hended ⟨_, _, rfl, ?_, ⟨_, rfl⟩, hW, hsame.mono (by decide) (by decide)⟩
                  show Q_rm19 Z p0 h0 n0 _ s₁.heap _
                  rw [e0]
                  exact ⟨congrArg (fun z => some (Value.int z)) (by show _ = (own_isA p0); unfold own_isA; rw [if_pos hc3_1, if_neg hc15_2, if_pos hc21_15, if_neg hc27_16, if_pos hc33_22, if_neg hc39_23, if_neg hc45_24, if_pos hc51_25]), N0, rfl⟩
                · refine OGo.by (fun _ k => XS.icmpNo X0.here hx rfl (hb hby d19_51) rfl (feq hc51_25).1 k) ?_
                  show OGo p e below _ (s₁.setTop (mkF m 54 #[.val (.int p0)] []))
                  refine OGo.by (fun _ k => XS.iloadN X0.here hx rfl (hb hby d19_54) rfl k) ?_
                  show OGo p e below _ (s₁.setTop (mkF m 55 #[.val (.int p0)] [(.int p0)]))
                  refine OGo.by (fun _ k => XS.bipush X0.here hx rfl (hb hby d19_55) k) ?_
                  show OGo p e below _ (s₁.setTop (mkF m 57 #[.val (.int p0)] [(.int (58 : Int32)), (.int p0)]))
                  by_cases hc57_26 : p0 = (58 : Int32)
                  · refine OGo.by (fun _ k => XS.icmpYes X0.here hx rfl (pc0 := 57) (pc' := 66) rfl (hb hby d19_57) rfl (teq hc57_26).1 (by decide) (by decide) k) ?_
                    show OGo p e below _ (s₁.setTop (mkF m 66 #[.val (.int p0)] []))
                    refine OGo.by (fun _ k => XS.iconst X0.here hx rfl (hb hby d19_66) k) ?_
                    show OGo p e below _ (s₁.setTop (mkF m 67 #[.val (.int p0)] [(.int (1 : Int32))]))
                    refine OGo.by (fun _ k => XS.goto X0.here hx rfl (pc0 := 67) (pc' := 71) rfl (hb hby d19_67) (by decide) (by decide) k) ?_
                    show OGo p e below _ (s₁.setTop (mkF m 71 #[.val (.int p0)] [(.int (1 : Int32))]))
                    obtain ⟨fs, hr, hrun, hended, hW, hsame⟩ := X0.leave (v := some (.int (1 : Int32))) (fun h => by rw [Bd.returns] at h; cases h)
                    refine OGo.ret (retN X0 hx (t := .boolean) Bd.returns (by simp) (hb hby d19_71) hr) hrun hended ⟨_, _, rfl, ?_, ⟨_, rfl⟩, hW, hsame.mono (by decide) (by decide)⟩
                    show Q_rm19 Z p0 h0 n0 _ s₁.heap _
                    rw [e0]
                    exact ⟨congrArg (fun z => some (Value.int z)) (by show _ = (own_isA p0); unfold own_isA; rw [if_pos hc3_1, if_neg hc15_2, if_pos hc21_15, if_neg hc27_16, if_pos hc33_22, if_neg hc39_23, if_neg hc45_24, if_neg hc51_25, if_pos hc57_26]), N0, rfl⟩
                  · refine OGo.by (fun _ k => XS.icmpNo X0.here hx rfl (hb hby d19_57) rfl (feq hc57_26).1 k) ?_
                    show OGo p e below _ (s₁.setTop (mkF m 60 #[.val (.int p0)] []))
                    refine OGo.by (fun _ k => XS.iloadN X0.here hx rfl (hb hby d19_60) rfl k) ?_
                    show OGo p e below _ (s₁.setTop (mkF m 61 #[.val (.int p0)] [(.int p0)]))
                    refine OGo.by (fun _ k => XS.bipush X0.here hx rfl (hb hby d19_61) k) ?_
                    show OGo p e below _ (s₁.setTop (mkF m 63 #[.val (.int p0)] [(.int (47 : Int32)), (.int p0)]))
                    by_cases hc63_27 : p0 = (47 : Int32)
                    · refine OGo.by (fun _ k => XS.icmpNo X0.here hx rfl (hb hby d19_63) rfl (teq hc63_27).2 k) ?_
                      show OGo p e below _ (s₁.setTop (mkF m 66 #[.val (.int p0)] []))
                      refine OGo.by (fun _ k => XS.iconst X0.here hx rfl (hb hby d19_66) k) ?_
                      show OGo p e below _ (s₁.setTop (mkF m 67 #[.val (.int p0)] [(.int (1 : Int32))]))
                      refine OGo.by (fun _ k => XS.goto X0.here hx rfl (pc0 := 67) (pc' := 71) rfl (hb hby d19_67) (by decide) (by decide) k) ?_
                      show OGo p e below _ (s₁.setTop (mkF m 71 #[.val (.int p0)] [(.int (1 : Int32))]))
                      obtain ⟨fs, hr, hrun, hended, hW, hsame⟩ := X0.leave (v := some (.int (1 : Int32))) (fun h => by rw [Bd.returns] at h; cases h)
                      refine OGo.ret (retN X0 hx (t := .boolean) Bd.returns (by simp) (hb hby d19_71) hr) hrun hended ⟨_, _, rfl, ?_, ⟨_, rfl⟩, hW, hsame.mono (by decide) (by decide)⟩
                      show Q_rm19 Z p0 h0 n0 _ s₁.heap _
                      rw [e0]
                      exact ⟨congrArg (fun z => some (Value.int z)) (by show _ = (own_isA p0); unfold own_isA; rw [if_pos hc3_1, if_neg hc15_2, if_pos hc21_15, if_neg hc27_16, if_pos hc33_22, if_neg hc39_23, if_neg hc45_24, if_neg hc51_25, if_neg hc57_26, if_pos hc63_27]), N0, rfl⟩
                    · refine OGo.by (fun _ k => XS.icmpYes X0.here hx rfl (pc0 := 63) (pc' := 70) rfl (hb hby d19_63) rfl (feq hc63_27).2 (by decide) (by decide) k) ?_
                      show OGo p e below _ (s₁.setTop (mkF m 70 #[.val (.int p0)] []))
                      refine OGo.by (fun _ k => XS.iconst X0.here hx rfl (hb hby d19_70) k) ?_
                      show OGo p e below _ (s₁.setTop (mkF m 71 #[.val (.int p0)] [(.int (0 : Int32))]))
                      obtain ⟨fs, hr, hrun, hended, hW, hsame⟩ := X0.leave (v := some (.int (0 : Int32))) (fun h => by rw [Bd.returns] at h; cases h)
                      refine OGo.ret (retN X0 hx (t := .boolean) Bd.returns (by simp) (hb hby d19_71) hr) hrun hended ⟨_, _, rfl, ?_, ⟨_, rfl⟩, hW, hsame.mono (by decide) (by decide)⟩
                      show Q_rm19 Z p0 h0 n0 _ s₁.heap _
                      rw [e0]
                      exact ⟨congrArg (fun z => some (Value.int z)) (by show _ = (own_isA p0); unfold own_isA; rw [if_pos hc3_1, if_neg hc15_2, if_pos hc21_15, if_neg hc27_16, if_pos hc33_22, if_neg hc39_23, if_neg hc45_24, if_neg hc51_25, if_neg hc57_26, if_neg hc63_27]), N0, rfl⟩
          · refine OGo.by (fun _ k => XS.icmpYes X0.here hx rfl (pc0 := 33) (pc' := 66) rfl (hb hby d19_33) rfl (flt hc33_22).2.2.2 (by decide) (by decide) k) ?_
            show OGo p e below _ (s₁.setTop (mkF m 66 #[.val (.int p0)] []))
            refine OGo.by (fun _ k => XS.iconst X0.here hx rfl (hb hby d19_66) k) ?_
            show OGo p e below _ (s₁.setTop (mkF m 67 #[.val (.int p0)] [(.int (1 : Int32))]))
            refine OGo.by (fun _ k => XS.goto X0.here hx rfl (pc0 := 67) (pc' := 71) rfl (hb hby d19_67) (by decide) (by decide) k) ?_
            show OGo p e below _ (s₁.setTop (mkF m 71 #[.val (.int p0)] [(.int (1 : Int32))]))
            obtain ⟨fs, hr, hrun, hended, hW, hsame⟩ := X0.leave (v := some (.int (1 : Int32))) (fun h => by rw [Bd.returns] at h; cases h)
            refine OGo.ret (retN X0 hx (t := .boolean) Bd.returns (by simp) (hb hby d19_71) hr) hrun hended ⟨_, _, rfl, ?_, ⟨_, rfl⟩, hW, hsame.mono (by decide) (by decide)⟩
            show Q_rm19 Z p0 h0 n0 _ s₁.heap _
            rw [e0]
            exact ⟨congrArg (fun z => some (Value.int z)) (by show _ = (own_isA p0); unfold own_isA; rw [if_pos hc3_1, if_neg hc15_2, if_pos hc21_15, if_neg hc27_16, if_neg hc33_22]), N0, rfl⟩
      · refine OGo.by (fun _ k => XS.icmpYes X0.here hx rfl (pc0 := 21) (pc' := 66) rfl (hb hby d19_21) rfl (flt hc21_15).2.2.2 (by decide) (by decide) k) ?_
        show OGo p e below _ (s₁.setTop (mkF m 66 #[.val (.int p0)] []))
        refine OGo.by (fun _ k => XS.iconst X0.here hx rfl (hb hby d19_66) k) ?_
        show OGo p e below _ (s₁.setTop (mkF m 67 #[.val (.int p0)] [(.int (1 : Int32))]))
        refine OGo.by (fun _ k => XS.goto X0.here hx rfl (pc0 := 67) (pc' := 71) rfl (hb hby d19_67) (by decide) (by decide) k) ?_
        show OGo p e below _ (s₁.setTop (mkF m 71 #[.val (.int p0)] [(.int (1 : Int32))]))
        obtain ⟨fs, hr, hrun, hended, hW, hsame⟩ := X0.leave (v := some (.int (1 : Int32))) (fun h => by rw [Bd.returns] at h; cases h)
        refine OGo.ret (retN X0 hx (t := .boolean) Bd.returns (by simp) (hb hby d19_71) hr) hrun hended ⟨_, _, rfl, ?_, ⟨_, rfl⟩, hW, hsame.mono (by decide) (by decide)⟩
        show Q_rm19 Z p0 h0 n0 _ s₁.heap _
        rw [e0]
        exact ⟨congrArg (fun z => some (Value.int z)) (by show _ = (own_isA p0); unfold own_isA; rw [if_pos hc3_1, if_neg hc15_2, if_neg hc21_15]), N0, rfl⟩
  · refine OGo.by (fun _ k => XS.icmpNo X0.here hx rfl (hb hby d19_3) rfl (flt hc3_1).1 k) ?_
    show OGo p e below _ (s₁.setTop (mkF m 6 #[.val (.int p0)] []))
    refine OGo.by (fun _ k => XS.iloadN X0.here hx rfl (hb hby d19_6) rfl k) ?_
    show OGo p e below _ (s₁.setTop (mkF m 7 #[.val (.int p0)] [(.int p0)]))
    refine OGo.by (fun _ k => XS.bipush X0.here hx rfl (hb hby d19_7) k) ?_
    show OGo p e below _ (s₁.setTop (mkF m 9 #[.val (.int p0)] [(.int (90 : Int32)), (.int p0)]))
    by_cases hc9_28 : (90 : Int32) < p0
    · refine OGo.by (fun _ k => XS.icmpNo X0.here hx rfl (hb hby d19_9) rfl (tlt hc9_28).2.2.2 k) ?_
      show OGo p e below _ (s₁.setTop (mkF m 12 #[.val (.int p0)] []))
      refine OGo.by (fun _ k => XS.iloadN X0.here hx rfl (hb hby d19_12) rfl k) ?_
      show OGo p e below _ (s₁.setTop (mkF m 13 #[.val (.int p0)] [(.int p0)]))
      refine OGo.by (fun _ k => XS.bipush X0.here hx rfl (hb hby d19_13) k) ?_
      show OGo p e below _ (s₁.setTop (mkF m 15 #[.val (.int p0)] [(.int (97 : Int32)), (.int p0)]))
      by_cases hc15_29 : p0 < (97 : Int32)
      · refine OGo.by (fun _ k => XS.icmpYes X0.here hx rfl (pc0 := 15) (pc' := 24) rfl (hb hby d19_15) rfl (tlt hc15_29).1 (by decide) (by decide) k) ?_
        show OGo p e below _ (s₁.setTop (mkF m 24 #[.val (.int p0)] []))
        refine OGo.by (fun _ k => XS.iloadN X0.here hx rfl (hb hby d19_24) rfl k) ?_
        show OGo p e below _ (s₁.setTop (mkF m 25 #[.val (.int p0)] [(.int p0)]))
        refine OGo.by (fun _ k => XS.bipush X0.here hx rfl (hb hby d19_25) k) ?_
        show OGo p e below _ (s₁.setTop (mkF m 27 #[.val (.int p0)] [(.int (48 : Int32)), (.int p0)]))
        by_cases hc27_30 : p0 < (48 : Int32)
        · refine OGo.by (fun _ k => XS.icmpYes X0.here hx rfl (pc0 := 27) (pc' := 36) rfl (hb hby d19_27) rfl (tlt hc27_30).1 (by decide) (by decide) k) ?_
          show OGo p e below _ (s₁.setTop (mkF m 36 #[.val (.int p0)] []))
          refine OGo.by (fun _ k => XS.iloadN X0.here hx rfl (hb hby d19_36) rfl k) ?_
          show OGo p e below _ (s₁.setTop (mkF m 37 #[.val (.int p0)] [(.int p0)]))
          refine OGo.by (fun _ k => XS.bipush X0.here hx rfl (hb hby d19_37) k) ?_
          show OGo p e below _ (s₁.setTop (mkF m 39 #[.val (.int p0)] [(.int (46 : Int32)), (.int p0)]))
          by_cases hc39_31 : p0 = (46 : Int32)
          · refine OGo.by (fun _ k => XS.icmpYes X0.here hx rfl (pc0 := 39) (pc' := 66) rfl (hb hby d19_39) rfl (teq hc39_31).1 (by decide) (by decide) k) ?_
            show OGo p e below _ (s₁.setTop (mkF m 66 #[.val (.int p0)] []))
            refine OGo.by (fun _ k => XS.iconst X0.here hx rfl (hb hby d19_66) k) ?_
            show OGo p e below _ (s₁.setTop (mkF m 67 #[.val (.int p0)] [(.int (1 : Int32))]))
            refine OGo.by (fun _ k => XS.goto X0.here hx rfl (pc0 := 67) (pc' := 71) rfl (hb hby d19_67) (by decide) (by decide) k) ?_
            show OGo p e below _ (s₁.setTop (mkF m 71 #[.val (.int p0)] [(.int (1 : Int32))]))
            obtain ⟨fs, hr, hrun, hended, hW, hsame⟩ := X0.leave (v := some (.int (1 : Int32))) (fun h => by rw [Bd.returns] at h; cases h)
            refine OGo.ret (retN X0 hx (t := .boolean) Bd.returns (by simp) (hb hby d19_71) hr) hrun hended ⟨_, _, rfl, ?_, ⟨_, rfl⟩, hW, hsame.mono (by decide) (by decide)⟩
            show Q_rm19 Z p0 h0 n0 _ s₁.heap _
            rw [e0]
            exact ⟨congrArg (fun z => some (Value.int z)) (by show _ = (own_isA p0); unfold own_isA; rw [if_neg hc3_1, if_pos hc9_28, if_pos hc15_29, if_pos hc27_30, if_pos hc39_31]), N0, rfl⟩
          · refine OGo.by (fun _ k => XS.icmpNo X0.here hx rfl (hb hby d19_39) rfl (feq hc39_31).1 k) ?_
            show OGo p e below _ (s₁.setTop (mkF m 42 #[.val (.int p0)] []))
            refine OGo.by (fun _ k => XS.iloadN X0.here hx rfl (hb hby d19_42) rfl k) ?_
            show OGo p e below _ (s₁.setTop (mkF m 43 #[.val (.int p0)] [(.int p0)]))
            refine OGo.by (fun _ k => XS.bipush X0.here hx rfl (hb hby d19_43) k) ?_
            show OGo p e below _ (s₁.setTop (mkF m 45 #[.val (.int p0)] [(.int (95 : Int32)), (.int p0)]))
            by_cases hc45_32 : p0 = (95 : Int32)
            · refine OGo.by (fun _ k => XS.icmpYes X0.here hx rfl (pc0 := 45) (pc' := 66) rfl (hb hby d19_45) rfl (teq hc45_32).1 (by decide) (by decide) k) ?_
              show OGo p e below _ (s₁.setTop (mkF m 66 #[.val (.int p0)] []))
              refine OGo.by (fun _ k => XS.iconst X0.here hx rfl (hb hby d19_66) k) ?_
              show OGo p e below _ (s₁.setTop (mkF m 67 #[.val (.int p0)] [(.int (1 : Int32))]))
              refine OGo.by (fun _ k => XS.goto X0.here hx rfl (pc0 := 67) (pc' := 71) rfl (hb hby d19_67) (by decide) (by decide) k) ?_
              show OGo p e below _ (s₁.setTop (mkF m 71 #[.val (.int p0)] [(.int (1 : Int32))]))
              obtain ⟨fs, hr, hrun, hended, hW, hsame⟩ := X0.leave (v := some (.int (1 : Int32))) (fun h => by rw [Bd.returns] at h; cases h)
              refine OGo.ret (retN X0 hx (t := .boolean) Bd.returns (by simp) (hb hby d19_71) hr) hrun hended ⟨_, _, rfl, ?_, ⟨_, rfl⟩, hW, hsame.mono (by decide) (by decide)⟩
              show Q_rm19 Z p0 h0 n0 _ s₁.heap _
              rw [e0]
              exact ⟨congrArg (fun z => some (Value.int z)) (by show _ = (own_isA p0); unfold own_isA; rw [if_neg hc3_1, if_pos hc9_28, if_pos hc15_29, if_pos hc27_30, if_neg hc39_31, if_pos hc45_32]), N0, rfl⟩
            · refine OGo.by (fun _ k => XS.icmpNo X0.here hx rfl (hb hby d19_45) rfl (feq hc45_32).1 k) ?_
              show OGo p e below _ (s₁.setTop (mkF m 48 #[.val (.int p0)] []))
              refine OGo.by (fun _ k => XS.iloadN X0.here hx rfl (hb hby d19_48) rfl k) ?_
              show OGo p e below _ (s₁.setTop (mkF m 49 #[.val (.int p0)] [(.int p0)]))
              refine OGo.by (fun _ k => XS.bipush X0.here hx rfl (hb hby d19_49) k) ?_
              show OGo p e below _ (s₁.setTop (mkF m 51 #[.val (.int p0)] [(.int (45 : Int32)), (.int p0)]))
              by_cases hc51_33 : p0 = (45 : Int32)
              · refine OGo.by (fun _ k => XS.icmpYes X0.here hx rfl (pc0 := 51) (pc' := 66) rfl (hb hby d19_51) rfl (teq hc51_33).1 (by decide) (by decide) k) ?_
                show OGo p e below _ (s₁.setTop (mkF m 66 #[.val (.int p0)] []))
                refine OGo.by (fun _ k => XS.iconst X0.here hx rfl (hb hby d19_66) k) ?_
                show OGo p e below _ (s₁.setTop (mkF m 67 #[.val (.int p0)] [(.int (1 : Int32))]))
                refine OGo.by (fun _ k => XS.goto X0.here hx rfl (pc0 := 67) (pc' := 71) rfl (hb hby d19_67) (by decide) (by decide) k) ?_
                show OGo p e below _ (s₁.setTop (mkF m 71 #[.val (.int p0)] [(.int (1 : Int32))]))
                obtain ⟨fs, hr, hrun, hended, hW, hsame⟩ := X0.leave (v := some (.int (1 : Int32))) (fun h => by rw [Bd.returns] at h; cases h)
                refine OGo.ret (retN X0 hx (t := .boolean) Bd.returns (by simp) (hb hby d19_71) hr) hrun hended ⟨_, _, rfl, ?_, ⟨_, rfl⟩, hW, hsame.mono (by decide) (by decide)⟩
                show Q_rm19 Z p0 h0 n0 _ s₁.heap _
                rw [e0]
                exact ⟨congrArg (fun z => some (Value.int z)) (by show _ = (own_isA p0); unfold own_isA; rw [if_neg hc3_1, if_pos hc9_28, if_pos hc15_29, if_pos hc27_30, if_neg hc39_31, if_neg hc45_32, if_pos hc51_33]), N0, rfl⟩
              · refine OGo.by (fun _ k => XS.icmpNo X0.here hx rfl (hb hby d19_51) rfl (feq hc51_33).1 k) ?_
                show OGo p e below _ (s₁.setTop (mkF m 54 #[.val (.int p0)] []))
                refine OGo.by (fun _ k => XS.iloadN X0.here hx rfl (hb hby d19_54) rfl k) ?_
                show OGo p e below _ (s₁.setTop (mkF m 55 #[.val (.int p0)] [(.int p0)]))
                refine OGo.by (fun _ k => XS.bipush X0.here hx rfl (hb hby d19_55) k) ?_
                show OGo p e below _ (s₁.setTop (mkF m 57 #[.val (.int p0)] [(.int (58 : Int32)), (.int p0)]))
                by_cases hc57_34 : p0 = (58 : Int32)
                · refine OGo.by (fun _ k => XS.icmpYes X0.here hx rfl (pc0 := 57) (pc' := 66) rfl (hb hby d19_57) rfl (teq hc57_34).1 (by decide) (by decide) k) ?_
                  show OGo p e below _ (s₁.setTop (mkF m 66 #[.val (.int p0)] []))
                  refine OGo.by (fun _ k => XS.iconst X0.here hx rfl (hb hby d19_66) k) ?_
                  show OGo p e below _ (s₁.setTop (mkF m 67 #[.val (.int p0)] [(.int (1 : Int32))]))
                  refine OGo.by (fun _ k => XS.goto X0.here hx rfl (pc0 := 67) (pc' := 71) rfl (hb hby d19_67) (by decide) (by decide) k) ?_
                  show OGo p e below _ (s₁.setTop (mkF m 71 #[.val (.int p0)] [(.int (1 : Int32))]))
                  obtain ⟨fs, hr, hrun, hended, hW, hsame⟩ := X0.leave (v := some (.int (1 : Int32))) (fun h => by rw [Bd.returns] at h; cases h)
                  refine OGo.ret (retN X0 hx (t := .boolean) Bd.returns (by simp) (hb hby d19_71) hr) hrun hended ⟨_, _, rfl, ?_, ⟨_, rfl⟩, hW, hsame.mono (by decide) (by decide)⟩
                  show Q_rm19 Z p0 h0 n0 _ s₁.heap _
                  rw [e0]
                  exact ⟨congrArg (fun z => some (Value.int z)) (by show _ = (own_isA p0); unfold own_isA; rw [if_neg hc3_1, if_pos hc9_28, if_pos hc15_29, if_pos hc27_30, if_neg hc39_31, if_neg hc45_32, if_neg hc51_33, if_pos hc57_34]), N0, rfl⟩
                · refine OGo.by (fun _ k => XS.icmpNo X0.here hx rfl (hb hby d19_57) rfl (feq hc57_34).1 k) ?_
                  show OGo p e below _ (s₁.setTop (mkF m 60 #[.val (.int p0)] []))
                  refine OGo.by (fun _ k => XS.iloadN X0.here hx rfl (hb hby d19_60) rfl k) ?_
                  show OGo p e below _ (s₁.setTop (mkF m 61 #[.val (.int p0)] [(.int p0)]))
                  refine OGo.by (fun _ k => XS.bipush X0.here hx rfl (hb hby d19_61) k) ?_
                  show OGo p e below _ (s₁.setTop (mkF m 63 #[.val (.int p0)] [(.int (47 : Int32)), (.int p0)]))
                  by_cases hc63_35 : p0 = (47 : Int32)
                  · refine OGo.by (fun _ k => XS.icmpNo X0.here hx rfl (hb hby d19_63) rfl (teq hc63_35).2 k) ?_
                    show OGo p e below _ (s₁.setTop (mkF m 66 #[.val (.int p0)] []))
                    refine OGo.by (fun _ k => XS.iconst X0.here hx rfl (hb hby d19_66) k) ?_
                    show OGo p e below _ (s₁.setTop (mkF m 67 #[.val (.int p0)] [(.int (1 : Int32))]))
                    refine OGo.by (fun _ k => XS.goto X0.here hx rfl (pc0 := 67) (pc' := 71) rfl (hb hby d19_67) (by decide) (by decide) k) ?_
                    show OGo p e below _ (s₁.setTop (mkF m 71 #[.val (.int p0)] [(.int (1 : Int32))]))
                    obtain ⟨fs, hr, hrun, hended, hW, hsame⟩ := X0.leave (v := some (.int (1 : Int32))) (fun h => by rw [Bd.returns] at h; cases h)
                    refine OGo.ret (retN X0 hx (t := .boolean) Bd.returns (by simp) (hb hby d19_71) hr) hrun hended ⟨_, _, rfl, ?_, ⟨_, rfl⟩, hW, hsame.mono (by decide) (by decide)⟩
                    show Q_rm19 Z p0 h0 n0 _ s₁.heap _
                    rw [e0]
                    exact ⟨congrArg (fun z => some (Value.int z)) (by show _ = (own_isA p0); unfold own_isA; rw [if_neg hc3_1, if_pos hc9_28, if_pos hc15_29, if_pos hc27_30, if_neg hc39_31, if_neg hc45_32, if_neg hc51_33, if_neg hc57_34, if_pos hc63_35]), N0, rfl⟩
                  · refine OGo.by (fun _ k => XS.icmpYes X0.here hx rfl (pc0 := 63) (pc' := 70) rfl (hb hby d19_63) rfl (feq hc63_35).2 (by decide) (by decide) k) ?_
                    show OGo p e below _ (s₁.setTop (mkF m 70 #[.val (.int p0)] []))
                    refine OGo.by (fun _ k => XS.iconst X0.here hx rfl (hb hby d19_70) k) ?_
                    show OGo p e below _ (s₁.setTop (mkF m 71 #[.val (.int p0)] [(.int (0 : Int32))]))
                    obtain ⟨fs, hr, hrun, hended, hW, hsame⟩ := X0.leave (v := some (.int (0 : Int32))) (fun h => by rw [Bd.returns] at h; cases h)
                    refine OGo.ret (retN X0 hx (t := .boolean) Bd.returns (by simp) (hb hby d19_71) hr) hrun hended ⟨_, _, rfl, ?_, ⟨_, rfl⟩, hW, hsame.mono (by decide) (by decide)⟩
                    show Q_rm19 Z p0 h0 n0 _ s₁.heap _
                    rw [e0]
                    exact ⟨congrArg (fun z => some (Value.int z)) (by show _ = (own_isA p0); unfold own_isA; rw [if_neg hc3_1, if_pos hc9_28, if_pos hc15_29, if_pos hc27_30, if_neg hc39_31, if_neg hc45_32, if_neg hc51_33, if_neg hc57_34, if_neg hc63_35]), N0, rfl⟩
        · refine OGo.by (fun _ k => XS.icmpNo X0.here hx rfl (hb hby d19_27) rfl (flt hc27_30).1 k) ?_
          show OGo p e below _ (s₁.setTop (mkF m 30 #[.val (.int p0)] []))
          refine OGo.by (fun _ k => XS.iloadN X0.here hx rfl (hb hby d19_30) rfl k) ?_
          show OGo p e below _ (s₁.setTop (mkF m 31 #[.val (.int p0)] [(.int p0)]))
          refine OGo.by (fun _ k => XS.bipush X0.here hx rfl (hb hby d19_31) k) ?_
          show OGo p e below _ (s₁.setTop (mkF m 33 #[.val (.int p0)] [(.int (57 : Int32)), (.int p0)]))
          by_cases hc33_36 : (57 : Int32) < p0
          · refine OGo.by (fun _ k => XS.icmpNo X0.here hx rfl (hb hby d19_33) rfl (tlt hc33_36).2.2.2 k) ?_
            show OGo p e below _ (s₁.setTop (mkF m 36 #[.val (.int p0)] []))
            refine OGo.by (fun _ k => XS.iloadN X0.here hx rfl (hb hby d19_36) rfl k) ?_
            show OGo p e below _ (s₁.setTop (mkF m 37 #[.val (.int p0)] [(.int p0)]))
            refine OGo.by (fun _ k => XS.bipush X0.here hx rfl (hb hby d19_37) k) ?_
            show OGo p e below _ (s₁.setTop (mkF m 39 #[.val (.int p0)] [(.int (46 : Int32)), (.int p0)]))
            by_cases hc39_37 : p0 = (46 : Int32)
            · refine OGo.by (fun _ k => XS.icmpYes X0.here hx rfl (pc0 := 39) (pc' := 66) rfl (hb hby d19_39) rfl (teq hc39_37).1 (by decide) (by decide) k) ?_
              show OGo p e below _ (s₁.setTop (mkF m 66 #[.val (.int p0)] []))
              refine OGo.by (fun _ k => XS.iconst X0.here hx rfl (hb hby d19_66) k) ?_
              show OGo p e below _ (s₁.setTop (mkF m 67 #[.val (.int p0)] [(.int (1 : Int32))]))
              refine OGo.by (fun _ k => XS.goto X0.here hx rfl (pc0 := 67) (pc' := 71) rfl (hb hby d19_67) (by decide) (by decide) k) ?_
              show OGo p e below _ (s₁.setTop (mkF m 71 #[.val (.int p0)] [(.int (1 : Int32))]))
              obtain ⟨fs, hr, hrun, hended, hW, hsame⟩ := X0.leave (v := some (.int (1 : Int32))) (fun h => by rw [Bd.returns] at h; cases h)
              refine OGo.ret (retN X0 hx (t := .boolean) Bd.returns (by simp) (hb hby d19_71) hr) hrun hended ⟨_, _, rfl, ?_, ⟨_, rfl⟩, hW, hsame.mono (by decide) (by decide)⟩
              show Q_rm19 Z p0 h0 n0 _ s₁.heap _
              rw [e0]
              exact ⟨congrArg (fun z => some (Value.int z)) (by show _ = (own_isA p0); unfold own_isA; rw [if_neg hc3_1, if_pos hc9_28, if_pos hc15_29, if_neg hc27_30, if_pos hc33_36, if_pos hc39_37]), N0, rfl⟩
            · refine OGo.by (fun _ k => XS.icmpNo X0.here hx rfl (hb hby d19_39) rfl (feq hc39_37).1 k) ?_
              show OGo p e below _ (s₁.setTop (mkF m 42 #[.val (.int p0)] []))
              refine OGo.by (fun _ k => XS.iloadN X0.here hx rfl (hb hby d19_42) rfl k) ?_
              show OGo p e below _ (s₁.setTop (mkF m 43 #[.val (.int p0)] [(.int p0)]))
              refine OGo.by (fun _ k => XS.bipush X0.here hx rfl (hb hby d19_43) k) ?_
              show OGo p e below _ (s₁.setTop (mkF m 45 #[.val (.int p0)] [(.int (95 : Int32)), (.int p0)]))
              by_cases hc45_38 : p0 = (95 : Int32)
              · refine OGo.by (fun _ k => XS.icmpYes X0.here hx rfl (pc0 := 45) (pc' := 66) rfl (hb hby d19_45) rfl (teq hc45_38).1 (by decide) (by decide) k) ?_
                show OGo p e below _ (s₁.setTop (mkF m 66 #[.val (.int p0)] []))
                refine OGo.by (fun _ k => XS.iconst X0.here hx rfl (hb hby d19_66) k) ?_
                show OGo p e below _ (s₁.setTop (mkF m 67 #[.val (.int p0)] [(.int (1 : Int32))]))
                refine OGo.by (fun _ k => XS.goto X0.here hx rfl (pc0 := 67) (pc' := 71) rfl (hb hby d19_67) (by decide) (by decide) k) ?_
                show OGo p e below _ (s₁.setTop (mkF m 71 #[.val (.int p0)] [(.int (1 : Int32))]))
                obtain ⟨fs, hr, hrun, hended, hW, hsame⟩ := X0.leave (v := some (.int (1 : Int32))) (fun h => by rw [Bd.returns] at h; cases h)
                refine OGo.ret (retN X0 hx (t := .boolean) Bd.returns (by simp) (hb hby d19_71) hr) hrun hended ⟨_, _, rfl, ?_, ⟨_, rfl⟩, hW, hsame.mono (by decide) (by decide)⟩
                show Q_rm19 Z p0 h0 n0 _ s₁.heap _
                rw [e0]
                exact ⟨congrArg (fun z => some (Value.int z)) (by show _ = (own_isA p0); unfold own_isA; rw [if_neg hc3_1, if_pos hc9_28, if_pos hc15_29, if_neg hc27_30, if_pos hc33_36, if_neg hc39_37, if_pos hc45_38]), N0, rfl⟩
              · refine OGo.by (fun _ k => XS.icmpNo X0.here hx rfl (hb hby d19_45) rfl (feq hc45_38).1 k) ?_
                show OGo p e below _ (s₁.setTop (mkF m 48 #[.val (.int p0)] []))
                refine OGo.by (fun _ k => XS.iloadN X0.here hx rfl (hb hby d19_48) rfl k) ?_
                show OGo p e below _ (s₁.setTop (mkF m 49 #[.val (.int p0)] [(.int p0)]))
                refine OGo.by (fun _ k => XS.bipush X0.here hx rfl (hb hby d19_49) k) ?_
                show OGo p e below _ (s₁.setTop (mkF m 51 #[.val (.int p0)] [(.int (45 : Int32)), (.int p0)]))
                by_cases hc51_39 : p0 = (45 : Int32)
                · refine OGo.by (fun _ k => XS.icmpYes X0.here hx rfl (pc0 := 51) (pc' := 66) rfl (hb hby d19_51) rfl (teq hc51_39).1 (by decide) (by decide) k) ?_
                  show OGo p e below _ (s₁.setTop (mkF m 66 #[.val (.int p0)] []))
                  refine OGo.by (fun _ k => XS.iconst X0.here hx rfl (hb hby d19_66) k) ?_
                  show OGo p e below _ (s₁.setTop (mkF m 67 #[.val (.int p0)] [(.int (1 : Int32))]))
                  refine OGo.by (fun _ k => XS.goto X0.here hx rfl (pc0 := 67) (pc' := 71) rfl (hb hby d19_67) (by decide) (by decide) k) ?_
                  show OGo p e below _ (s₁.setTop (mkF m 71 #[.val (.int p0)] [(.int (1 : Int32))]))
                  obtain ⟨fs, hr, hrun, hended, hW, hsame⟩ := X0.leave (v := some (.int (1 : Int32))) (fun h => by rw [Bd.returns] at h; cases h)
                  refine OGo.ret (retN X0 hx (t := .boolean) Bd.returns (by simp) (hb hby d19_71) hr) hrun hended ⟨_, _, rfl, ?_, ⟨_, rfl⟩, hW, hsame.mono (by decide) (by decide)⟩
                  show Q_rm19 Z p0 h0 n0 _ s₁.heap _
                  rw [e0]
                  exact ⟨congrArg (fun z => some (Value.int z)) (by show _ = (own_isA p0); unfold own_isA; rw [if_neg hc3_1, if_pos hc9_28, if_pos hc15_29, if_neg hc27_30, if_pos hc33_36, if_neg hc39_37, if_neg hc45_38, if_pos hc51_39]), N0, rfl⟩
                · refine OGo.by (fun _ k => XS.icmpNo X0.here hx rfl (hb hby d19_51) rfl (feq hc51_39).1 k) ?_
                  show OGo p e below _ (s₁.setTop (mkF m 54 #[.val (.int p0)] []))
                  refine OGo.by (fun _ k => XS.iloadN X0.here hx rfl (hb hby d19_54) rfl k) ?_
                  show OGo p e below _ (s₁.setTop (mkF m 55 #[.val (.int p0)] [(.int p0)]))
                  refine OGo.by (fun _ k => XS.bipush X0.here hx rfl (hb hby d19_55) k) ?_
                  show OGo p e below _ (s₁.setTop (mkF m 57 #[.val (.int p0)] [(.int (58 : Int32)), (.int p0)]))
                  by_cases hc57_40 : p0 = (58 : Int32)
                  · refine OGo.by (fun _ k => XS.icmpYes X0.here hx rfl (pc0 := 57) (pc' := 66) rfl (hb hby d19_57) rfl (teq hc57_40).1 (by decide) (by decide) k) ?_
                    show OGo p e below _ (s₁.setTop (mkF m 66 #[.val (.int p0)] []))
                    refine OGo.by (fun _ k => XS.iconst X0.here hx rfl (hb hby d19_66) k) ?_
                    show OGo p e below _ (s₁.setTop (mkF m 67 #[.val (.int p0)] [(.int (1 : Int32))]))
                    refine OGo.by (fun _ k => XS.goto X0.here hx rfl (pc0 := 67) (pc' := 71) rfl (hb hby d19_67) (by decide) (by decide) k) ?_
                    show OGo p e below _ (s₁.setTop (mkF m 71 #[.val (.int p0)] [(.int (1 : Int32))]))
                    obtain ⟨fs, hr, hrun, hended, hW, hsame⟩ := X0.leave (v := some (.int (1 : Int32))) (fun h => by rw [Bd.returns] at h; cases h)
                    refine OGo.ret (retN X0 hx (t := .boolean) Bd.returns (by simp) (hb hby d19_71) hr) hrun hended ⟨_, _, rfl, ?_, ⟨_, rfl⟩, hW, hsame.mono (by decide) (by decide)⟩
                    show Q_rm19 Z p0 h0 n0 _ s₁.heap _
                    rw [e0]
                    exact ⟨congrArg (fun z => some (Value.int z)) (by show _ = (own_isA p0); unfold own_isA; rw [if_neg hc3_1, if_pos hc9_28, if_pos hc15_29, if_neg hc27_30, if_pos hc33_36, if_neg hc39_37, if_neg hc45_38, if_neg hc51_39, if_pos hc57_40]), N0, rfl⟩
                  · refine OGo.by (fun _ k => XS.icmpNo X0.here hx rfl (hb hby d19_57) rfl (feq hc57_40).1 k) ?_
                    show OGo p e below _ (s₁.setTop (mkF m 60 #[.val (.int p0)] []))
                    refine OGo.by (fun _ k => XS.iloadN X0.here hx rfl (hb hby d19_60) rfl k) ?_
                    show OGo p e below _ (s₁.setTop (mkF m 61 #[.val (.int p0)] [(.int p0)]))
                    refine OGo.by (fun _ k => XS.bipush X0.here hx rfl (hb hby d19_61) k) ?_
                    show OGo p e below _ (s₁.setTop (mkF m 63 #[.val (.int p0)] [(.int (47 : Int32)), (.int p0)]))
                    by_cases hc63_41 : p0 = (47 : Int32)
                    · refine OGo.by (fun _ k => XS.icmpNo X0.here hx rfl (hb hby d19_63) rfl (teq hc63_41).2 k) ?_
                      show OGo p e below _ (s₁.setTop (mkF m 66 #[.val (.int p0)] []))
                      refine OGo.by (fun _ k => XS.iconst X0.here hx rfl (hb hby d19_66) k) ?_
                      show OGo p e below _ (s₁.setTop (mkF m 67 #[.val (.int p0)] [(.int (1 : Int32))]))
                      refine OGo.by (fun _ k => XS.goto X0.here hx rfl (pc0 := 67) (pc' := 71) rfl (hb hby d19_67) (by decide) (by decide) k) ?_
                      show OGo p e below _ (s₁.setTop (mkF m 71 #[.val (.int p0)] [(.int (1 : Int32))]))
                      obtain ⟨fs, hr, hrun, hended, hW, hsame⟩ := X0.leave (v := some (.int (1 : Int32))) (fun h => by rw [Bd.returns] at h; cases h)
                      refine OGo.ret (retN X0 hx (t := .boolean) Bd.returns (by simp) (hb hby d19_71) hr) hrun hended ⟨_, _, rfl, ?_, ⟨_, rfl⟩, hW, hsame.mono (by decide) (by decide)⟩
                      show Q_rm19 Z p0 h0 n0 _ s₁.heap _
                      rw [e0]
                      exact ⟨congrArg (fun z => some (Value.int z)) (by show _ = (own_isA p0); unfold own_isA; rw [if_neg hc3_1, if_pos hc9_28, if_pos hc15_29, if_neg hc27_30, if_pos hc33_36, if_neg hc39_37, if_neg hc45_38, if_neg hc51_39, if_neg hc57_40, if_pos hc63_41]), N0, rfl⟩
                    · refine OGo.by (fun _ k => XS.icmpYes X0.here hx rfl (pc0 := 63) (pc' := 70) rfl (hb hby d19_63) rfl (feq hc63_41).2 (by decide) (by decide) k) ?_
                      show OGo p e below _ (s₁.setTop (mkF m 70 #[.val (.int p0)] []))
                      refine OGo.by (fun _ k => XS.iconst X0.here hx rfl (hb hby d19_70) k) ?_
                      show OGo p e below _ (s₁.setTop (mkF m 71 #[.val (.int p0)] [(.int (0 : Int32))]))
                      obtain ⟨fs, hr, hrun, hended, hW, hsame⟩ := X0.leave (v := some (.int (0 : Int32))) (fun h => by rw [Bd.returns] at h; cases h)
                      refine OGo.ret (retN X0 hx (t := .boolean) Bd.returns (by simp) (hb hby d19_71) hr) hrun hended ⟨_, _, rfl, ?_, ⟨_, rfl⟩, hW, hsame.mono (by decide) (by decide)⟩
                      show Q_rm19 Z p0 h0 n0 _ s₁.heap _
                      rw [e0]
                      exact ⟨congrArg (fun z => some (Value.int z)) (by show _ = (own_isA p0); unfold own_isA; rw [if_neg hc3_1, if_pos hc9_28, if_pos hc15_29, if_neg hc27_30, if_pos hc33_36, if_neg hc39_37, if_neg hc45_38, if_neg hc51_39, if_neg hc57_40, if_neg hc63_41]), N0, rfl⟩
          · refine OGo.by (fun _ k => XS.icmpYes X0.here hx rfl (pc0 := 33) (pc' := 66) rfl (hb hby d19_33) rfl (flt hc33_36).2.2.2 (by decide) (by decide) k) ?_
            show OGo p e below _ (s₁.setTop (mkF m 66 #[.val (.int p0)] []))
            refine OGo.by (fun _ k => XS.iconst X0.here hx rfl (hb hby d19_66) k) ?_
            show OGo p e below _ (s₁.setTop (mkF m 67 #[.val (.int p0)] [(.int (1 : Int32))]))
            refine OGo.by (fun _ k => XS.goto X0.here hx rfl (pc0 := 67) (pc' := 71) rfl (hb hby d19_67) (by decide) (by decide) k) ?_
            show OGo p e below _ (s₁.setTop (mkF m 71 #[.val (.int p0)] [(.int (1 : Int32))]))
            obtain ⟨fs, hr, hrun, hended, hW, hsame⟩ := X0.leave (v := some (.int (1 : Int32))) (fun h => by rw [Bd.returns] at h; cases h)
            refine OGo.ret (retN X0 hx (t := .boolean) Bd.returns (by simp) (hb hby d19_71) hr) hrun hended ⟨_, _, rfl, ?_, ⟨_, rfl⟩, hW, hsame.mono (by decide) (by decide)⟩
            show Q_rm19 Z p0 h0 n0 _ s₁.heap _
            rw [e0]
            exact ⟨congrArg (fun z => some (Value.int z)) (by show _ = (own_isA p0); unfold own_isA; rw [if_neg hc3_1, if_pos hc9_28, if_pos hc15_29, if_neg hc27_30, if_neg hc33_36]), N0, rfl⟩
      · refine OGo.by (fun _ k => XS.icmpNo X0.here hx rfl (hb hby d19_15) rfl (flt hc15_29).1 k) ?_
        show OGo p e below _ (s₁.setTop (mkF m 18 #[.val (.int p0)] []))
        refine OGo.by (fun _ k => XS.iloadN X0.here hx rfl (hb hby d19_18) rfl k) ?_
        show OGo p e below _ (s₁.setTop (mkF m 19 #[.val (.int p0)] [(.int p0)]))
        refine OGo.by (fun _ k => XS.bipush X0.here hx rfl (hb hby d19_19) k) ?_
        show OGo p e below _ (s₁.setTop (mkF m 21 #[.val (.int p0)] [(.int (122 : Int32)), (.int p0)]))
        by_cases hc21_42 : (122 : Int32) < p0
        · refine OGo.by (fun _ k => XS.icmpNo X0.here hx rfl (hb hby d19_21) rfl (tlt hc21_42).2.2.2 k) ?_
          show OGo p e below _ (s₁.setTop (mkF m 24 #[.val (.int p0)] []))
          refine OGo.by (fun _ k => XS.iloadN X0.here hx rfl (hb hby d19_24) rfl k) ?_
          show OGo p e below _ (s₁.setTop (mkF m 25 #[.val (.int p0)] [(.int p0)]))
          refine OGo.by (fun _ k => XS.bipush X0.here hx rfl (hb hby d19_25) k) ?_
          show OGo p e below _ (s₁.setTop (mkF m 27 #[.val (.int p0)] [(.int (48 : Int32)), (.int p0)]))
          by_cases hc27_43 : p0 < (48 : Int32)
          · refine OGo.by (fun _ k => XS.icmpYes X0.here hx rfl (pc0 := 27) (pc' := 36) rfl (hb hby d19_27) rfl (tlt hc27_43).1 (by decide) (by decide) k) ?_
            show OGo p e below _ (s₁.setTop (mkF m 36 #[.val (.int p0)] []))
            refine OGo.by (fun _ k => XS.iloadN X0.here hx rfl (hb hby d19_36) rfl k) ?_
            show OGo p e below _ (s₁.setTop (mkF m 37 #[.val (.int p0)] [(.int p0)]))
            refine OGo.by (fun _ k => XS.bipush X0.here hx rfl (hb hby d19_37) k) ?_
            show OGo p e below _ (s₁.setTop (mkF m 39 #[.val (.int p0)] [(.int (46 : Int32)), (.int p0)]))
            by_cases hc39_44 : p0 = (46 : Int32)
            · refine OGo.by (fun _ k => XS.icmpYes X0.here hx rfl (pc0 := 39) (pc' := 66) rfl (hb hby d19_39) rfl (teq hc39_44).1 (by decide) (by decide) k) ?_
              show OGo p e below _ (s₁.setTop (mkF m 66 #[.val (.int p0)] []))
              refine OGo.by (fun _ k => XS.iconst X0.here hx rfl (hb hby d19_66) k) ?_
              show OGo p e below _ (s₁.setTop (mkF m 67 #[.val (.int p0)] [(.int (1 : Int32))]))
              refine OGo.by (fun _ k => XS.goto X0.here hx rfl (pc0 := 67) (pc' := 71) rfl (hb hby d19_67) (by decide) (by decide) k) ?_
              show OGo p e below _ (s₁.setTop (mkF m 71 #[.val (.int p0)] [(.int (1 : Int32))]))
              obtain ⟨fs, hr, hrun, hended, hW, hsame⟩ := X0.leave (v := some (.int (1 : Int32))) (fun h => by rw [Bd.returns] at h; cases h)
              refine OGo.ret (retN X0 hx (t := .boolean) Bd.returns (by simp) (hb hby d19_71) hr) hrun hended ⟨_, _, rfl, ?_, ⟨_, rfl⟩, hW, hsame.mono (by decide) (by decide)⟩
              show Q_rm19 Z p0 h0 n0 _ s₁.heap _
              rw [e0]
              exact ⟨congrArg (fun z => some (Value.int z)) (by show _ = (own_isA p0); unfold own_isA; rw [if_neg hc3_1, if_pos hc9_28, if_neg hc15_29, if_pos hc21_42, if_pos hc27_43, if_pos hc39_44]), N0, rfl⟩
            · refine OGo.by (fun _ k => XS.icmpNo X0.here hx rfl (hb hby d19_39) rfl (feq hc39_44).1 k) ?_
              show OGo p e below _ (s₁.setTop (mkF m 42 #[.val (.int p0)] []))
              refine OGo.by (fun _ k => XS.iloadN X0.here hx rfl (hb hby d19_42) rfl k) ?_
              show OGo p e below _ (s₁.setTop (mkF m 43 #[.val (.int p0)] [(.int p0)]))
              refine OGo.by (fun _ k => XS.bipush X0.here hx rfl (hb hby d19_43) k) ?_
              show OGo p e below _ (s₁.setTop (mkF m 45 #[.val (.int p0)] [(.int (95 : Int32)), (.int p0)]))
              by_cases hc45_45 : p0 = (95 : Int32)
              · refine OGo.by (fun _ k => XS.icmpYes X0.here hx rfl (pc0 := 45) (pc' := 66) rfl (hb hby d19_45) rfl (teq hc45_45).1 (by decide) (by decide) k) ?_
                show OGo p e below _ (s₁.setTop (mkF m 66 #[.val (.int p0)] []))
                refine OGo.by (fun _ k => XS.iconst X0.here hx rfl (hb hby d19_66) k) ?_
                show OGo p e below _ (s₁.setTop (mkF m 67 #[.val (.int p0)] [(.int (1 : Int32))]))
                refine OGo.by (fun _ k => XS.goto X0.here hx rfl (pc0 := 67) (pc' := 71) rfl (hb hby d19_67) (by decide) (by decide) k) ?_
                show OGo p e below _ (s₁.setTop (mkF m 71 #[.val (.int p0)] [(.int (1 : Int32))]))
                obtain ⟨fs, hr, hrun, hended, hW, hsame⟩ := X0.leave (v := some (.int (1 : Int32))) (fun h => by rw [Bd.returns] at h; cases h)
                refine OGo.ret (retN X0 hx (t := .boolean) Bd.returns (by simp) (hb hby d19_71) hr) hrun hended ⟨_, _, rfl, ?_, ⟨_, rfl⟩, hW, hsame.mono (by decide) (by decide)⟩
                show Q_rm19 Z p0 h0 n0 _ s₁.heap _
                rw [e0]
                exact ⟨congrArg (fun z => some (Value.int z)) (by show _ = (own_isA p0); unfold own_isA; rw [if_neg hc3_1, if_pos hc9_28, if_neg hc15_29, if_pos hc21_42, if_pos hc27_43, if_neg hc39_44, if_pos hc45_45]), N0, rfl⟩
              · refine OGo.by (fun _ k => XS.icmpNo X0.here hx rfl (hb hby d19_45) rfl (feq hc45_45).1 k) ?_
                show OGo p e below _ (s₁.setTop (mkF m 48 #[.val (.int p0)] []))
                refine OGo.by (fun _ k => XS.iloadN X0.here hx rfl (hb hby d19_48) rfl k) ?_
                show OGo p e below _ (s₁.setTop (mkF m 49 #[.val (.int p0)] [(.int p0)]))
                refine OGo.by (fun _ k => XS.bipush X0.here hx rfl (hb hby d19_49) k) ?_
                show OGo p e below _ (s₁.setTop (mkF m 51 #[.val (.int p0)] [(.int (45 : Int32)), (.int p0)]))
                by_cases hc51_46 : p0 = (45 : Int32)
                · refine OGo.by (fun _ k => XS.icmpYes X0.here hx rfl (pc0 := 51) (pc' := 66) rfl (hb hby d19_51) rfl (teq hc51_46).1 (by decide) (by decide) k) ?_
                  show OGo p e below _ (s₁.setTop (mkF m 66 #[.val (.int p0)] []))
                  refine OGo.by (fun _ k => XS.iconst X0.here hx rfl (hb hby d19_66) k) ?_
                  show OGo p e below _ (s₁.setTop (mkF m 67 #[.val (.int p0)] [(.int (1 : Int32))]))
                  refine OGo.by (fun _ k => XS.goto X0.here hx rfl (pc0 := 67) (pc' := 71) rfl (hb hby d19_67) (by decide) (by decide) k) ?_
                  show OGo p e below _ (s₁.setTop (mkF m 71 #[.val (.int p0)] [(.int (1 : Int32))]))
                  obtain ⟨fs, hr, hrun, hended, hW, hsame⟩ := X0.leave (v := some (.int (1 : Int32))) (fun h => by rw [Bd.returns] at h; cases h)
                  refine OGo.ret (retN X0 hx (t := .boolean) Bd.returns (by simp) (hb hby d19_71) hr) hrun hended ⟨_, _, rfl, ?_, ⟨_, rfl⟩, hW, hsame.mono (by decide) (by decide)⟩
                  show Q_rm19 Z p0 h0 n0 _ s₁.heap _
                  rw [e0]
                  exact ⟨congrArg (fun z => some (Value.int z)) (by show _ = (own_isA p0); unfold own_isA; rw [if_neg hc3_1, if_pos hc9_28, if_neg hc15_29, if_pos hc21_42, if_pos hc27_43, if_neg hc39_44, if_neg hc45_45, if_pos hc51_46]), N0, rfl⟩
                · refine OGo.by (fun _ k => XS.icmpNo X0.here hx rfl (hb hby d19_51) rfl (feq hc51_46).1 k) ?_
                  show OGo p e below _ (s₁.setTop (mkF m 54 #[.val (.int p0)] []))
                  refine OGo.by (fun _ k => XS.iloadN X0.here hx rfl (hb hby d19_54) rfl k) ?_
                  show OGo p e below _ (s₁.setTop (mkF m 55 #[.val (.int p0)] [(.int p0)]))
                  refine OGo.by (fun _ k => XS.bipush X0.here hx rfl (hb hby d19_55) k) ?_
                  show OGo p e below _ (s₁.setTop (mkF m 57 #[.val (.int p0)] [(.int (58 : Int32)), (.int p0)]))
                  by_cases hc57_47 : p0 = (58 : Int32)
                  · refine OGo.by (fun _ k => XS.icmpYes X0.here hx rfl (pc0 := 57) (pc' := 66) rfl (hb hby d19_57) rfl (teq hc57_47).1 (by decide) (by decide) k) ?_
                    show OGo p e below _ (s₁.setTop (mkF m 66 #[.val (.int p0)] []))
                    refine OGo.by (fun _ k => XS.iconst X0.here hx rfl (hb hby d19_66) k) ?_
                    show OGo p e below _ (s₁.setTop (mkF m 67 #[.val (.int p0)] [(.int (1 : Int32))]))
                    refine OGo.by (fun _ k => XS.goto X0.here hx rfl (pc0 := 67) (pc' := 71) rfl (hb hby d19_67) (by decide) (by decide) k) ?_
                    show OGo p e below _ (s₁.setTop (mkF m 71 #[.val (.int p0)] [(.int (1 : Int32))]))
                    obtain ⟨fs, hr, hrun, hended, hW, hsame⟩ := X0.leave (v := some (.int (1 : Int32))) (fun h => by rw [Bd.returns] at h; cases h)
                    refine OGo.ret (retN X0 hx (t := .boolean) Bd.returns (by simp) (hb hby d19_71) hr) hrun hended ⟨_, _, rfl, ?_, ⟨_, rfl⟩, hW, hsame.mono (by decide) (by decide)⟩
                    show Q_rm19 Z p0 h0 n0 _ s₁.heap _
                    rw [e0]
                    exact ⟨congrArg (fun z => some (Value.int z)) (by show _ = (own_isA p0); unfold own_isA; rw [if_neg hc3_1, if_pos hc9_28, if_neg hc15_29, if_pos hc21_42, if_pos hc27_43, if_neg hc39_44, if_neg hc45_45, if_neg hc51_46, if_pos hc57_47]), N0, rfl⟩
                  · refine OGo.by (fun _ k => XS.icmpNo X0.here hx rfl (hb hby d19_57) rfl (feq hc57_47).1 k) ?_
                    show OGo p e below _ (s₁.setTop (mkF m 60 #[.val (.int p0)] []))
                    refine OGo.by (fun _ k => XS.iloadN X0.here hx rfl (hb hby d19_60) rfl k) ?_
                    show OGo p e below _ (s₁.setTop (mkF m 61 #[.val (.int p0)] [(.int p0)]))
                    refine OGo.by (fun _ k => XS.bipush X0.here hx rfl (hb hby d19_61) k) ?_
                    show OGo p e below _ (s₁.setTop (mkF m 63 #[.val (.int p0)] [(.int (47 : Int32)), (.int p0)]))
                    by_cases hc63_48 : p0 = (47 : Int32)
                    · refine OGo.by (fun _ k => XS.icmpNo X0.here hx rfl (hb hby d19_63) rfl (teq hc63_48).2 k) ?_
                      show OGo p e below _ (s₁.setTop (mkF m 66 #[.val (.int p0)] []))
                      refine OGo.by (fun _ k => XS.iconst X0.here hx rfl (hb hby d19_66) k) ?_
                      show OGo p e below _ (s₁.setTop (mkF m 67 #[.val (.int p0)] [(.int (1 : Int32))]))
                      refine OGo.by (fun _ k => XS.goto X0.here hx rfl (pc0 := 67) (pc' := 71) rfl (hb hby d19_67) (by decide) (by decide) k) ?_
                      show OGo p e below _ (s₁.setTop (mkF m 71 #[.val (.int p0)] [(.int (1 : Int32))]))
                      obtain ⟨fs, hr, hrun, hended, hW, hsame⟩ := X0.leave (v := some (.int (1 : Int32))) (fun h => by rw [Bd.returns] at h; cases h)
                      refine OGo.ret (retN X0 hx (t := .boolean) Bd.returns (by simp) (hb hby d19_71) hr) hrun hended ⟨_, _, rfl, ?_, ⟨_, rfl⟩, hW, hsame.mono (by decide) (by decide)⟩
                      show Q_rm19 Z p0 h0 n0 _ s₁.heap _
                      rw [e0]
                      exact ⟨congrArg (fun z => some (Value.int z)) (by show _ = (own_isA p0); unfold own_isA; rw [if_neg hc3_1, if_pos hc9_28, if_neg hc15_29, if_pos hc21_42, if_pos hc27_43, if_neg hc39_44, if_neg hc45_45, if_neg hc51_46, if_neg hc57_47, if_pos hc63_48]), N0, rfl⟩
                    · refine OGo.by (fun _ k => XS.icmpYes X0.here hx rfl (pc0 := 63) (pc' := 70) rfl (hb hby d19_63) rfl (feq hc63_48).2 (by decide) (by decide) k) ?_
                      show OGo p e below _ (s₁.setTop (mkF m 70 #[.val (.int p0)] []))
                      refine OGo.by (fun _ k => XS.iconst X0.here hx rfl (hb hby d19_70) k) ?_
                      show OGo p e below _ (s₁.setTop (mkF m 71 #[.val (.int p0)] [(.int (0 : Int32))]))
                      obtain ⟨fs, hr, hrun, hended, hW, hsame⟩ := X0.leave (v := some (.int (0 : Int32))) (fun h => by rw [Bd.returns] at h; cases h)
                      refine OGo.ret (retN X0 hx (t := .boolean) Bd.returns (by simp) (hb hby d19_71) hr) hrun hended ⟨_, _, rfl, ?_, ⟨_, rfl⟩, hW, hsame.mono (by decide) (by decide)⟩
                      show Q_rm19 Z p0 h0 n0 _ s₁.heap _
                      rw [e0]
                      exact ⟨congrArg (fun z => some (Value.int z)) (by show _ = (own_isA p0); unfold own_isA; rw [if_neg hc3_1, if_pos hc9_28, if_neg hc15_29, if_pos hc21_42, if_pos hc27_43, if_neg hc39_44, if_neg hc45_45, if_neg hc51_46, if_neg hc57_47, if_neg hc63_48]), N0, rfl⟩
          · refine OGo.by (fun _ k => XS.icmpNo X0.here hx rfl (hb hby d19_27) rfl (flt hc27_43).1 k) ?_
            show OGo p e below _ (s₁.setTop (mkF m 30 #[.val (.int p0)] []))
            refine OGo.by (fun _ k => XS.iloadN X0.here hx rfl (hb hby d19_30) rfl k) ?_
            show OGo p e below _ (s₁.setTop (mkF m 31 #[.val (.int p0)] [(.int p0)]))
            refine OGo.by (fun _ k => XS.bipush X0.here hx rfl (hb hby d19_31) k) ?_
            show OGo p e below _ (s₁.setTop (mkF m 33 #[.val (.int p0)] [(.int (57 : Int32)), (.int p0)]))
            by_cases hc33_49 : (57 : Int32) < p0
            · refine OGo.by (fun _ k => XS.icmpNo X0.here hx rfl (hb hby d19_33) rfl (tlt hc33_49).2.2.2 k) ?_
              show OGo p e below _ (s₁.setTop (mkF m 36 #[.val (.int p0)] []))
              refine OGo.by (fun _ k => XS.iloadN X0.here hx rfl (hb hby d19_36) rfl k) ?_
              show OGo p e below _ (s₁.setTop (mkF m 37 #[.val (.int p0)] [(.int p0)]))
              refine OGo.by (fun _ k => XS.bipush X0.here hx rfl (hb hby d19_37) k) ?_
              show OGo p e below _ (s₁.setTop (mkF m 39 #[.val (.int p0)] [(.int (46 : Int32)), (.int p0)]))
              by_cases hc39_50 : p0 = (46 : Int32)
              · refine OGo.by (fun _ k => XS.icmpYes X0.here hx rfl (pc0 := 39) (pc' := 66) rfl (hb hby d19_39) rfl (teq hc39_50).1 (by decide) (by decide) k) ?_
                show OGo p e below _ (s₁.setTop (mkF m 66 #[.val (.int p0)] []))
                refine OGo.by (fun _ k => XS.iconst X0.here hx rfl (hb hby d19_66) k) ?_
                show OGo p e below _ (s₁.setTop (mkF m 67 #[.val (.int p0)] [(.int (1 : Int32))]))
                refine OGo.by (fun _ k => XS.goto X0.here hx rfl (pc0 := 67) (pc' := 71) rfl (hb hby d19_67) (by decide) (by decide) k) ?_
                show OGo p e below _ (s₁.setTop (mkF m 71 #[.val (.int p0)] [(.int (1 : Int32))]))
                obtain ⟨fs, hr, hrun, hended, hW, hsame⟩ := X0.leave (v := some (.int (1 : Int32))) (fun h => by rw [Bd.returns] at h; cases h)
                refine OGo.ret (retN X0 hx (t := .boolean) Bd.returns (by simp) (hb hby d19_71) hr) hrun hended ⟨_, _, rfl, ?_, ⟨_, rfl⟩, hW, hsame.mono (by decide) (by decide)⟩
                show Q_rm19 Z p0 h0 n0 _ s₁.heap _
                rw [e0]
                exact ⟨congrArg (fun z => some (Value.int z)) (by show _ = (own_isA p0); unfold own_isA; rw [if_neg hc3_1, if_pos hc9_28, if_neg hc15_29, if_pos hc21_42, if_neg hc27_43, if_pos hc33_49, if_pos hc39_50]), N0, rfl⟩
              · refine OGo.by (fun _ k => XS.icmpNo X0.here hx rfl (hb hby d19_39) rfl (feq hc39_50).1 k) ?_
                show OGo p e below _ (s₁.setTop (mkF m 42 #[.val (.int p0)] []))
                refine OGo.by (fun _ k => XS.iloadN X0.here hx rfl (hb hby d19_42) rfl k) ?_
                show OGo p e below _ (s₁.setTop (mkF m 43 #[.val (.int p0)] [(.int p0)]))
                refine OGo.by (fun _ k => XS.bipush X0.here hx rfl (hb hby d19_43) k) ?_
                show OGo p e below _ (s₁.setTop (mkF m 45 #[.val (.int p0)] [(.int (95 : Int32)), (.int p0)]))
                by_cases hc45_51 : p0 = (95 : Int32)
                · refine OGo.by (fun _ k => XS.icmpYes X0.here hx rfl (pc0 := 45) (pc' := 66) rfl (hb hby d19_45) rfl (teq hc45_51).1 (by decide) (by decide) k) ?_
                  show OGo p e below _ (s₁.setTop (mkF m 66 #[.val (.int p0)] []))
                  refine OGo.by (fun _ k => XS.iconst X0.here hx rfl (hb hby d19_66) k) ?_
                  show OGo p e below _ (s₁.setTop (mkF m 67 #[.val (.int p0)] [(.int (1 : Int32))]))
                  refine OGo.by (fun _ k => XS.goto X0.here hx rfl (pc0 := 67) (pc' := 71) rfl (hb hby d19_67) (by decide) (by decide) k) ?_
                  show OGo p e below _ (s₁.setTop (mkF m 71 #[.val (.int p0)] [(.int (1 : Int32))]))
                  obtain ⟨fs, hr, hrun, hended, hW, hsame⟩ := X0.leave (v := some (.int (1 : Int32))) (fun h => by rw [Bd.returns] at h; cases h)
                  refine OGo.ret (retN X0 hx (t := .boolean) Bd.returns (by simp) (hb hby d19_71) hr) hrun hended ⟨_, _, rfl, ?_, ⟨_, rfl⟩, hW, hsame.mono (by decide) (by decide)⟩
                  show Q_rm19 Z p0 h0 n0 _ s₁.heap _
                  rw [e0]
                  exact ⟨congrArg (fun z => some (Value.int z)) (by show _ = (own_isA p0); unfold own_isA; rw [if_neg hc3_1, if_pos hc9_28, if_neg hc15_29, if_pos hc21_42, if_neg hc27_43, if_pos hc33_49, if_neg hc39_50, if_pos hc45_51]), N0, rfl⟩
                · refine OGo.by (fun _ k => XS.icmpNo X0.here hx rfl (hb hby d19_45) rfl (feq hc45_51).1 k) ?_
                  show OGo p e below _ (s₁.setTop (mkF m 48 #[.val (.int p0)] []))
                  refine OGo.by (fun _ k => XS.iloadN X0.here hx rfl (hb hby d19_48) rfl k) ?_
                  show OGo p e below _ (s₁.setTop (mkF m 49 #[.val (.int p0)] [(.int p0)]))
                  refine OGo.by (fun _ k => XS.bipush X0.here hx rfl (hb hby d19_49) k) ?_
                  show OGo p e below _ (s₁.setTop (mkF m 51 #[.val (.int p0)] [(.int (45 : Int32)), (.int p0)]))
                  by_cases hc51_52 : p0 = (45 : Int32)
                  · refine OGo.by (fun _ k => XS.icmpYes X0.here hx rfl (pc0 := 51) (pc' := 66) rfl (hb hby d19_51) rfl (teq hc51_52).1 (by decide) (by decide) k) ?_
                    show OGo p e below _ (s₁.setTop (mkF m 66 #[.val (.int p0)] []))
                    refine OGo.by (fun _ k => XS.iconst X0.here hx rfl (hb hby d19_66) k) ?_
                    show OGo p e below _ (s₁.setTop (mkF m 67 #[.val (.int p0)] [(.int (1 : Int32))]))
                    refine OGo.by (fun _ k => XS.goto X0.here hx rfl (pc0 := 67) (pc' := 71) rfl (hb hby d19_67) (by decide) (by decide) k) ?_
                    show OGo p e below _ (s₁.setTop (mkF m 71 #[.val (.int p0)] [(.int (1 : Int32))]))
                    obtain ⟨fs, hr, hrun, hended, hW, hsame⟩ := X0.leave (v := some (.int (1 : Int32))) (fun h => by rw [Bd.returns] at h; cases h)
                    refine OGo.ret (retN X0 hx (t := .boolean) Bd.returns (by simp) (hb hby d19_71) hr) hrun hended ⟨_, _, rfl, ?_, ⟨_, rfl⟩, hW, hsame.mono (by decide) (by decide)⟩
                    show Q_rm19 Z p0 h0 n0 _ s₁.heap _
                    rw [e0]
                    exact ⟨congrArg (fun z => some (Value.int z)) (by show _ = (own_isA p0); unfold own_isA; rw [if_neg hc3_1, if_pos hc9_28, if_neg hc15_29, if_pos hc21_42, if_neg hc27_43, if_pos hc33_49, if_neg hc39_50, if_neg hc45_51, if_pos hc51_52]), N0, rfl⟩
                  · refine OGo.by (fun _ k => XS.icmpNo X0.here hx rfl (hb hby d19_51) rfl (feq hc51_52).1 k) ?_
                    show OGo p e below _ (s₁.setTop (mkF m 54 #[.val (.int p0)] []))
                    refine OGo.by (fun _ k => XS.iloadN X0.here hx rfl (hb hby d19_54) rfl k) ?_
                    show OGo p e below _ (s₁.setTop (mkF m 55 #[.val (.int p0)] [(.int p0)]))
                    refine OGo.by (fun _ k => XS.bipush X0.here hx rfl (hb hby d19_55) k) ?_
                    show OGo p e below _ (s₁.setTop (mkF m 57 #[.val (.int p0)] [(.int (58 : Int32)), (.int p0)]))
                    by_cases hc57_53 : p0 = (58 : Int32)
                    · refine OGo.by (fun _ k => XS.icmpYes X0.here hx rfl (pc0 := 57) (pc' := 66) rfl (hb hby d19_57) rfl (teq hc57_53).1 (by decide) (by decide) k) ?_
                      show OGo p e below _ (s₁.setTop (mkF m 66 #[.val (.int p0)] []))
                      refine OGo.by (fun _ k => XS.iconst X0.here hx rfl (hb hby d19_66) k) ?_
                      show OGo p e below _ (s₁.setTop (mkF m 67 #[.val (.int p0)] [(.int (1 : Int32))]))
                      refine OGo.by (fun _ k => XS.goto X0.here hx rfl (pc0 := 67) (pc' := 71) rfl (hb hby d19_67) (by decide) (by decide) k) ?_
                      show OGo p e below _ (s₁.setTop (mkF m 71 #[.val (.int p0)] [(.int (1 : Int32))]))
                      obtain ⟨fs, hr, hrun, hended, hW, hsame⟩ := X0.leave (v := some (.int (1 : Int32))) (fun h => by rw [Bd.returns] at h; cases h)
                      refine OGo.ret (retN X0 hx (t := .boolean) Bd.returns (by simp) (hb hby d19_71) hr) hrun hended ⟨_, _, rfl, ?_, ⟨_, rfl⟩, hW, hsame.mono (by decide) (by decide)⟩
                      show Q_rm19 Z p0 h0 n0 _ s₁.heap _
                      rw [e0]
                      exact ⟨congrArg (fun z => some (Value.int z)) (by show _ = (own_isA p0); unfold own_isA; rw [if_neg hc3_1, if_pos hc9_28, if_neg hc15_29, if_pos hc21_42, if_neg hc27_43, if_pos hc33_49, if_neg hc39_50, if_neg hc45_51, if_neg hc51_52, if_pos hc57_53]), N0, rfl⟩
                    · refine OGo.by (fun _ k => XS.icmpNo X0.here hx rfl (hb hby d19_57) rfl (feq hc57_53).1 k) ?_
                      show OGo p e below _ (s₁.setTop (mkF m 60 #[.val (.int p0)] []))
                      refine OGo.by (fun _ k => XS.iloadN X0.here hx rfl (hb hby d19_60) rfl k) ?_
                      show OGo p e below _ (s₁.setTop (mkF m 61 #[.val (.int p0)] [(.int p0)]))
                      refine OGo.by (fun _ k => XS.bipush X0.here hx rfl (hb hby d19_61) k) ?_
                      show OGo p e below _ (s₁.setTop (mkF m 63 #[.val (.int p0)] [(.int (47 : Int32)), (.int p0)]))
                      by_cases hc63_54 : p0 = (47 : Int32)
                      · refine OGo.by (fun _ k => XS.icmpNo X0.here hx rfl (hb hby d19_63) rfl (teq hc63_54).2 k) ?_
                        show OGo p e below _ (s₁.setTop (mkF m 66 #[.val (.int p0)] []))
                        refine OGo.by (fun _ k => XS.iconst X0.here hx rfl (hb hby d19_66) k) ?_
                        show OGo p e below _ (s₁.setTop (mkF m 67 #[.val (.int p0)] [(.int (1 : Int32))]))
                        refine OGo.by (fun _ k => XS.goto X0.here hx rfl (pc0 := 67) (pc' := 71) rfl (hb hby d19_67) (by decide) (by decide) k) ?_
                        show OGo p e below _ (s₁.setTop (mkF m 71 #[.val (.int p0)] [(.int (1 : Int32))]))
                        obtain ⟨fs, hr, hrun, hended, hW, hsame⟩ := X0.leave (v := some (.int (1 : Int32))) (fun h => by rw [Bd.returns] at h; cases h)
                        refine OGo.ret (retN X0 hx (t := .boolean) Bd.returns (by simp) (hb hby d19_71) hr) hrun hended ⟨_, _, rfl, ?_, ⟨_, rfl⟩, hW, hsame.mono (by decide) (by decide)⟩
                        show Q_rm19 Z p0 h0 n0 _ s₁.heap _
                        rw [e0]
                        exact ⟨congrArg (fun z => some (Value.int z)) (by show _ = (own_isA p0); unfold own_isA; rw [if_neg hc3_1, if_pos hc9_28, if_neg hc15_29, if_pos hc21_42, if_neg hc27_43, if_pos hc33_49, if_neg hc39_50, if_neg hc45_51, if_neg hc51_52, if_neg hc57_53, if_pos hc63_54]), N0, rfl⟩
                      · refine OGo.by (fun _ k => XS.icmpYes X0.here hx rfl (pc0 := 63) (pc' := 70) rfl (hb hby d19_63) rfl (feq hc63_54).2 (by decide) (by decide) k) ?_
                        show OGo p e below _ (s₁.setTop (mkF m 70 #[.val (.int p0)] []))
                        refine OGo.by (fun _ k => XS.iconst X0.here hx rfl (hb hby d19_70) k) ?_
                        show OGo p e below _ (s₁.setTop (mkF m 71 #[.val (.int p0)] [(.int (0 : Int32))]))
                        obtain ⟨fs, hr, hrun, hended, hW, hsame⟩ := X0.leave (v := some (.int (0 : Int32))) (fun h => by rw [Bd.returns] at h; cases h)
                        refine OGo.ret (retN X0 hx (t := .boolean) Bd.returns (by simp) (hb hby d19_71) hr) hrun hended ⟨_, _, rfl, ?_, ⟨_, rfl⟩, hW, hsame.mono (by decide) (by decide)⟩
                        show Q_rm19 Z p0 h0 n0 _ s₁.heap _
                        rw [e0]
                        exact ⟨congrArg (fun z => some (Value.int z)) (by show _ = (own_isA p0); unfold own_isA; rw [if_neg hc3_1, if_pos hc9_28, if_neg hc15_29, if_pos hc21_42, if_neg hc27_43, if_pos hc33_49, if_neg hc39_50, if_neg hc45_51, if_neg hc51_52, if_neg hc57_53, if_neg hc63_54]), N0, rfl⟩
            · refine OGo.by (fun _ k => XS.icmpYes X0.here hx rfl (pc0 := 33) (pc' := 66) rfl (hb hby d19_33) rfl (flt hc33_49).2.2.2 (by decide) (by decide) k) ?_
              show OGo p e below _ (s₁.setTop (mkF m 66 #[.val (.int p0)] []))
              refine OGo.by (fun _ k => XS.iconst X0.here hx rfl (hb hby d19_66) k) ?_
              show OGo p e below _ (s₁.setTop (mkF m 67 #[.val (.int p0)] [(.int (1 : Int32))]))
              refine OGo.by (fun _ k => XS.goto X0.here hx rfl (pc0 := 67) (pc' := 71) rfl (hb hby d19_67) (by decide) (by decide) k) ?_
              show OGo p e below _ (s₁.setTop (mkF m 71 #[.val (.int p0)] [(.int (1 : Int32))]))
              obtain ⟨fs, hr, hrun, hended, hW, hsame⟩ := X0.leave (v := some (.int (1 : Int32))) (fun h => by rw [Bd.returns] at h; cases h)
              refine OGo.ret (retN X0 hx (t := .boolean) Bd.returns (by simp) (hb hby d19_71) hr) hrun hended ⟨_, _, rfl, ?_, ⟨_, rfl⟩, hW, hsame.mono (by decide) (by decide)⟩
              show Q_rm19 Z p0 h0 n0 _ s₁.heap _
              rw [e0]
              exact ⟨congrArg (fun z => some (Value.int z)) (by show _ = (own_isA p0); unfold own_isA; rw [if_neg hc3_1, if_pos hc9_28, if_neg hc15_29, if_pos hc21_42, if_neg hc27_43, if_neg hc33_49]), N0, rfl⟩
        · refine OGo.by (fun _ k => XS.icmpYes X0.here hx rfl (pc0 := 21) (pc' := 66) rfl (hb hby d19_21) rfl (flt hc21_42).2.2.2 (by decide) (by decide) k) ?_
          show OGo p e below _ (s₁.setTop (mkF m 66 #[.val (.int p0)] []))
          refine OGo.by (fun _ k => XS.iconst X0.here hx rfl (hb hby d19_66) k) ?_
          show OGo p e below _ (s₁.setTop (mkF m 67 #[.val (.int p0)] [(.int (1 : Int32))]))
          refine OGo.by (fun _ k => XS.goto X0.here hx rfl (pc0 := 67) (pc' := 71) rfl (hb hby d19_67) (by decide) (by decide) k) ?_
          show OGo p e below _ (s₁.setTop (mkF m 71 #[.val (.int p0)] [(.int (1 : Int32))]))
          obtain ⟨fs, hr, hrun, hended, hW, hsame⟩ := X0.leave (v := some (.int (1 : Int32))) (fun h => by rw [Bd.returns] at h; cases h)
          refine OGo.ret (retN X0 hx (t := .boolean) Bd.returns (by simp) (hb hby d19_71) hr) hrun hended ⟨_, _, rfl, ?_, ⟨_, rfl⟩, hW, hsame.mono (by decide) (by decide)⟩
          show Q_rm19 Z p0 h0 n0 _ s₁.heap _
          rw [e0]
          exact ⟨congrArg (fun z => some (Value.int z)) (by show _ = (own_isA p0); unfold own_isA; rw [if_neg hc3_1, if_pos hc9_28, if_neg hc15_29, if_neg hc21_42]), N0, rfl⟩
    · refine OGo.by (fun _ k => XS.icmpYes X0.here hx rfl (pc0 := 9) (pc' := 66) rfl (hb hby d19_9) rfl (flt hc9_28).2.2.2 (by decide) (by decide) k) ?_
      show OGo p e below _ (s₁.setTop (mkF m 66 #[.val (.int p0)] []))
      refine OGo.by (fun _ k => XS.iconst X0.here hx rfl (hb hby d19_66) k) ?_
      show OGo p e below _ (s₁.setTop (mkF m 67 #[.val (.int p0)] [(.int (1 : Int32))]))
      refine OGo.by (fun _ k => XS.goto X0.here hx rfl (pc0 := 67) (pc' := 71) rfl (hb hby d19_67) (by decide) (by decide) k) ?_
      show OGo p e below _ (s₁.setTop (mkF m 71 #[.val (.int p0)] [(.int (1 : Int32))]))
      obtain ⟨fs, hr, hrun, hended, hW, hsame⟩ := X0.leave (v := some (.int (1 : Int32))) (fun h => by rw [Bd.returns] at h; cases h)
      refine OGo.ret (retN X0 hx (t := .boolean) Bd.returns (by simp) (hb hby d19_71) hr) hrun hended ⟨_, _, rfl, ?_, ⟨_, rfl⟩, hW, hsame.mono (by decide) (by decide)⟩
      show Q_rm19 Z p0 h0 n0 _ s₁.heap _
      rw [e0]
      exact ⟨congrArg (fun z => some (Value.int z)) (by show _ = (own_isA p0); unfold own_isA; rw [if_neg hc3_1, if_neg hc9_28]), N0, rfl⟩
theorem own_k67 (x : Int32) : ∃ j : Fin 67, ((x &&& (2147483647 : Int32)) % (67 : Int32)) = Int32.ofNat j.val := by
  have e := c_mask x (2147483647 : Int32) 31 (by decide) (by decide)
  have h0 : 0 ≤ (x &&& (2147483647 : Int32)).toInt := by rw [e]; exact Int.emod_nonneg _ (by decide)
  have r := (c_irem (x &&& (2147483647 : Int32)) (67 : Int32) 67 (by decide)).1 h0
  have a1 := Int.emod_nonneg (x &&& (2147483647 : Int32)).toInt (by decide : (67 : Int) ≠ 0)
  have a2 := Int.emod_lt_of_pos (x &&& (2147483647 : Int32)).toInt (by decide : (0 : Int) < 67)
  rw [← r] at a1 a2
  generalize ((x &&& (2147483647 : Int32)) % (67 : Int32)) = v at *
  refine ⟨⟨v.toInt.toNat, by omega⟩, ?_⟩
  apply Int32.toInt_inj.mp
  show v.toInt = (Int32.ofNat v.toInt.toNat).toInt
  rw [Int32.toInt_ofNat_small (by omega)]; omega
theorem own_al_ok (x : Int32) : (¬ own_al x < 0 ∧ ¬ (255 : Int32) < own_al x) ∧ nar .char (own_al x) = own_al x ∧ own_isA (nar .char (own_al x)) = (1 : Int32) := by
  obtain ⟨j, hj⟩ := own_k67 x
  unfold own_al
  rw [hj]
  clear hj
  revert j
  decide +kernel
theorem own_four (x : Int32) : ((1 : Int32) + (x &&& (3 : Int32))) = (1 : Int32) ∨ ((1 : Int32) + (x &&& (3 : Int32))) = (2 : Int32) ∨ ((1 : Int32) + (x &&& (3 : Int32))) = (3 : Int32) ∨ ((1 : Int32) + (x &&& (3 : Int32))) = (4 : Int32) := by
  have e := c_mask x (3 : Int32) 2 (by decide) (by decide)
  have a1 := Int.emod_nonneg x.toInt (by decide : ((2 ^ 2 : Nat) : Int) ≠ 0)
  have a2 := Int.emod_lt_of_pos x.toInt (by decide : (0 : Int) < ((2 ^ 2 : Nat) : Int))
  rw [← e] at a1 a2
  generalize (x &&& (3 : Int32)) = v at *
  have h : v = 0 ∨ v = 1 ∨ v = 2 ∨ v = 3 := by
    simp only [← Int32.toInt_inj]
    have : (0 : Int32).toInt = 0 := rfl
    have : (1 : Int32).toInt = 1 := rfl
    have : (2 : Int32).toInt = 2 := rfl
    have : (3 : Int32).toInt = 3 := rfl
    omega
  rcases h with rfl | rfl | rfl | rfl <;> decide
theorem own_nar {p : Int32} (h : nar .char p = p) (r : ¬ p < 0 ∧ ¬ (255 : Int32) < p) : ¬ nar .char p < 0 ∧ ¬ (255 : Int32) < nar .char p := by rw [h]; exact r
theorem d2_0 : decode method_3_code 0 = .ok (.iload_n 0, 1) := by decide +kernel
theorem d2_1 : decode method_3_code 1 = .ok (.iconst 1, 1) := by decide +kernel
theorem d2_2 : decode method_3_code 2 = .ok (.if_icmp .ne 18, 3) := by decide +kernel
theorem d2_5 : decode method_3_code 5 = .ok (.new 8, 3) := by decide +kernel
theorem d2_8 : decode method_3_code 8 = .ok (.dup, 1) := by decide +kernel
theorem d2_9 : decode method_3_code 9 = .ok (.iconst 1, 1) := by decide +kernel
theorem d2_10 : decode method_3_code 10 = .ok (.newarray .char, 2) := by decide +kernel
theorem d2_12 : decode method_3_code 12 = .ok (.dup, 1) := by decide +kernel
theorem d2_13 : decode method_3_code 13 = .ok (.iconst 0, 1) := by decide +kernel
theorem d2_14 : decode method_3_code 14 = .ok (.iload_n 1, 1) := by decide +kernel
theorem d2_15 : decode method_3_code 15 = .ok (.castore, 1) := by decide +kernel
theorem d2_16 : decode method_3_code 16 = .ok (.invokespecial 10, 3) := by decide +kernel
theorem own_pd0 : parseMethodDescriptor "([C)V" = some ⟨[(.array .char)], none⟩ := by decide +kernel
theorem d2_19 : decode method_3_code 19 = .ok (.areturn, 1) := by decide +kernel
theorem own_pn2 : plainName "com/example/trusty_lock/trustylock/LockNameOfPinLaw" = true := by first | (simp [plainName, overriddenIn]; done) | decide +kernel
theorem ef_rmMk1 (m : MethodId) (p0 : Int32) (p1 : Int32) (p2 : Int32) (p3 : Int32) (p4 : Int32) : entryFrame m #[(.int p0), (.int p1), (.int p2), (.int p3), (.int p4)] 5 = mkF m 0 #[.val (.int p0), .val (.int p1), .val (.int p2), .val (.int p3), .val (.int p4)] [] := by first | (simp [entryFrame, mkF, argsToLocals, Value.category]; done) | rfl
def Q_rmMk1 (Z : State) (p0 : Int32) (p1 : Int32) (p2 : Int32) (p3 : Int32) (p4 : Int32) (cz : Int32) (h0 : Heap) (n0 : Nat) (v : Option Value) (h : Heap) (L : List Loc) : Prop := ∃ b : Addr, ∃ t : Addr, ∃ kb : ClassId, v = some (.ref b) ∧ Fr n0 L ∧ Keep h0 h [] ∧ (h0.size ≤ b) ∧ (n0 ≤ b) ∧ (h0.size ≤ t) ∧ (n0 ≤ t) ∧ (b ≠ t) ∧ (Exa Z h b "java/lang/String") ∧ (Fld Z h b "java/lang/String" "coder" "B" (.int (0 : Int32))) ∧ (Fld Z h b "java/lang/String" "value" "[B" (.ref t)) ∧ (Arv Z h t kb .byte (1 : Int32) ((([(nar .char p1)] : List Int32).map (fun c => c.toInt8.toInt32)).map Value.int) (.int 0))
set_option maxRecDepth 65536 in
set_option maxHeartbeats 40000000 in
theorem rmMk1 (l : Launch) (Z : State) (av0 : Array Value) (hw : ∀ d ∈ tables_1, d.before av0 Z = true) (ws : List Jvm.Cond) (p0 : Int32) (p1 : Int32) (p2 : Int32) (p3 : Int32) (p4 : Int32) (cz : Int32) (h0 : Heap) (n0 : Nat) (Z0 : n0 ≤ h0.size) (hk : p0 = (1 : Int32)) (hn1 : nar .char p1 = p1) (hc1 : ¬ p1 < 0 ∧ ¬ (255 : Int32) < p1) (hn2 : nar .char p2 = p2) (hc2 : ¬ p2 < 0 ∧ ¬ (255 : Int32) < p2) (hn3 : nar .char p3 = p3) (hc3 : ¬ p3 < 0 ∧ ¬ (255 : Int32) < p3) (hn4 : nar .char p4 = p4) (hc4 : ¬ p4 < 0 ∧ ¬ (255 : Int32) < p4) (O0 : Old Z n0 h0) (S1 : Sta Z Z.heap "java/lang/String" "COMPACT_STRINGS" "Z" (.int cz)) (hcz : ¬ cz = (0 : Int32)) :
    MetFree l (⟨"com/example/trusty_lock/trustylock/LockNameOfPinLaw", "make", "(ICCCC)Ljava/lang/String;"⟩ : MethodName) (head1 (Jvm.Cond.code (⟨"com/example/trusty_lock/trustylock/LockNameOfPinLaw", "make", "(ICCCC)Ljava/lang/String;"⟩ : MethodName) method_3_code 5 (some (.object "java/lang/String")) :: ws) ({ frames := 4, cells := 3, slots := 6, locals := 66 } : Room)) (fun a U => a = #[(.int p0), (.int p1), (.int p2), (.int p3), (.int p4)] ∧ Z.Warmed39 U.vm ∧ U.heap = h0) (fun _ _ _ _ _ => True) (fun _ U o U' => ∃ v L, o = .returned v ∧ Q_rmMk1 Z p0 p1 p2 p3 p4 cz h0 n0 v U'.heap L ∧ FrameEnd U o U' L ({ frames := 4, cells := 3, slots := 6, locals := 66 } : Room).cells ({ frames := 4, cells := 3, slots := 6, locals := 66 } : Room).slots) := by
  refine MetFree.of_bodySF (plainFor_of_name own_pn2) hisR ?_
  intro p e s m args below meth c s₁ Bd hml0 hP hK
  obtain ⟨rfl, hZ, hh⟩ := hP
  have hx := Bd.exec
  have hby := Bd.bytes
  have hml : c.maxLocals = 5 := hml0
  have hown : s.vm.findClass "com/example/trusty_lock/trustylock/LockNameOfPinLaw" = some m.cls := findClass_of_methodNamed Bd.named
  have hnm := (name_of_methodNamed Bd.named Bd.method).1
  have X0 : Stand p l e ({ frames := 4, cells := 3, slots := 6, locals := 66 } : Room) s m #[(.int p0), (.int p1), (.int p2), (.int p3), (.int p4)] below meth c s₁ [] 0 0 := Stand.of_body Bd
  have e0 : s₁.heap = h0 := by rw [← hh, Bd.state]; rfl
  have N0 := Fr.nil n0
  refine OGo.by (P := fun U' o => ∃ v L, o = .returned v ∧ Q_rmMk1 Z p0 p1 p2 p3 p4 cz h0 n0 v U'.heap L ∧ FrameEnd s o U' L ({ frames := 4, cells := 3, slots := 6, locals := 66 } : Room).cells ({ frames := 4, cells := 3, slots := 6, locals := 66 } : Room).slots) (fun t k => castTop (ef_rmMk1 m p0 p1 p2 p3 p4) k) ?_
  show OGo p e below _ (s₁.setTop (mkF m 0 #[.val (.int p0), .val (.int p1), .val (.int p2), .val (.int p3), .val (.int p4)] []))
  refine OGo.by (fun _ k => XS.iloadN X0.here hx rfl (hb hby d2_0) rfl k) ?_
  show OGo p e below _ (s₁.setTop (mkF m 1 #[.val (.int p0), .val (.int p1), .val (.int p2), .val (.int p3), .val (.int p4)] [(.int p0)]))
  refine OGo.by (fun _ k => XS.iconst X0.here hx rfl (hb hby d2_1) k) ?_
  show OGo p e below _ (s₁.setTop (mkF m 2 #[.val (.int p0), .val (.int p1), .val (.int p2), .val (.int p3), .val (.int p4)] [(.int (1 : Int32)), (.int p0)]))
  refine OGo.by (fun _ k => XS.icmpNo X0.here hx rfl (hb hby d2_2) rfl (teq hk).2 k) ?_
  show OGo p e below _ (s₁.setTop (mkF m 5 #[.val (.int p0), .val (.int p1), .val (.int p2), .val (.int p3), .val (.int p4)] []))
  obtain ⟨T1, h1, X1, e1, E1, A1, D1, U1, st1⟩ := newO X0 hx hZ hown (hw _ (List.mem_of_getElem? (i := 8) rfl)) (hw _ (List.mem_of_getElem? (i := 9) rfl)) (hw _ (List.mem_of_getElem? (i := 10) rfl)) e0 (g := (mkF m 5 #[.val (.int p0), .val (.int p1), .val (.int p2), .val (.int p3), .val (.int p4)] [])) rfl (hb hby d2_5) (by decide) (by decide)
  obtain ⟨b1, g1⟩ : ∃ z, z = h0.size := ⟨_, rfl⟩
  rw [← g1] at A1 D1 U1 st1
  have g_b1 : n0 ≤ b1 := Nat.le_trans Z0 (Nat.le_of_eq g1.symm)
  have sz_b1 : h0.size ≤ b1 := Nat.le_trans (Nat.le_refl _) (Nat.le_of_eq g1.symm)
  refine OGo.by st1 ?_
  have K1 : Keep h0 h1 [] := ((Keep.refl h0 [])).ext E1
  have F1_coder : Fld Z h1 b1 "java/lang/String" "coder" "B" (.int (0 : Int32)) := D1 (Or.inr (hw _ (List.mem_of_getElem? (i := 35) rfl))) (ty := .byte) (by decide)
  have F1_value : Fld Z h1 b1 "java/lang/String" "value" "[B" .null := D1 (Or.inr (hw _ (List.mem_of_getElem? (i := 37) rfl))) (ty := (.array .byte)) (by decide)
  show OGo p e below _ (T1.setTop (mkF m 8 #[.val (.int p0), .val (.int p1), .val (.int p2), .val (.int p3), .val (.int p4)] [(.ref b1)]))
  refine OGo.by (fun _ k => XS.dup X1.here hx rfl (hb hby d2_8) rfl rfl k) ?_
  show OGo p e below _ (T1.setTop (mkF m 9 #[.val (.int p0), .val (.int p1), .val (.int p2), .val (.int p3), .val (.int p4)] [(.ref b1), (.ref b1)]))
  refine OGo.by (fun _ k => XS.iconst X1.here hx rfl (hb hby d2_9) k) ?_
  show OGo p e below _ (T1.setTop (mkF m 10 #[.val (.int p0), .val (.int p1), .val (.int p2), .val (.int p3), .val (.int p4)] [(.int (1 : Int32)), (.ref b1), (.ref b1)]))
  obtain ⟨T2, h2, k2, X2, e2, E2, A2, st2⟩ := newP X1 hx hZ (hw _ (List.mem_of_getElem? (i := 11) rfl)) e1 (g := (mkF m 10 #[.val (.int p0), .val (.int p1), .val (.int p2), .val (.int p3), .val (.int p4)] [(.int (1 : Int32)), (.ref b1), (.ref b1)])) rfl (hb hby d2_10) rfl (by decide : ¬ ((1 : Int32) < (0 : Int32))) (cap := 1) (by decide) (by decide) (by decide) (by decide)
  obtain ⟨b2, g2⟩ : ∃ z, z = h1.size := ⟨_, rfl⟩
  rw [← g2] at A2 st2
  have ne_b1_b2 : b1 ≠ b2 := Nat.ne_of_lt (Nat.lt_of_lt_of_le A1.lt (Nat.le_of_eq g2.symm))
  have g_b2 : n0 ≤ b2 := Nat.le_trans (Nat.le_trans Z0 K1.1) (Nat.le_of_eq g2.symm)
  have sz_b2 : h0.size ≤ b2 := Nat.le_trans K1.1 (Nat.le_of_eq g2.symm)
  refine OGo.by st2 ?_
  have K2 : Keep h0 h2 [] := (K1).ext E2
  have V2 : Arv Z h2 b2 k2 .char (1 : Int32) [(.int (0 : Int32))] (.int (0 : Int32)) := (Arv.new A2 (by decide)).pad (pad_rep [] (.int (0 : Int32)) 1)
  show OGo p e below _ (T2.setTop (mkF m 12 #[.val (.int p0), .val (.int p1), .val (.int p2), .val (.int p3), .val (.int p4)] [(.ref b2), (.ref b1), (.ref b1)]))
  refine OGo.by (fun _ k => XS.dup X2.here hx rfl (hb hby d2_12) rfl rfl k) ?_
  show OGo p e below _ (T2.setTop (mkF m 13 #[.val (.int p0), .val (.int p1), .val (.int p2), .val (.int p3), .val (.int p4)] [(.ref b2), (.ref b2), (.ref b1), (.ref b1)]))
  refine OGo.by (fun _ k => XS.iconst X2.here hx rfl (hb hby d2_13) k) ?_
  show OGo p e below _ (T2.setTop (mkF m 14 #[.val (.int p0), .val (.int p1), .val (.int p2), .val (.int p3), .val (.int p4)] [(.int (0 : Int32)), (.ref b2), (.ref b2), (.ref b1), (.ref b1)]))
  refine OGo.by (fun _ k => XS.iloadN X2.here hx rfl (hb hby d2_14) rfl k) ?_
  show OGo p e below _ (T2.setTop (mkF m 15 #[.val (.int p0), .val (.int p1), .val (.int p2), .val (.int p3), .val (.int p4)] [(.int p1), (.int (0 : Int32)), (.ref b2), (.ref b2), (.ref b1), (.ref b1)]))
  obtain ⟨cl3, Ar3, q3, S3, M3, Hs3, G3⟩ := id V2
  obtain ⟨T3, h3, X3, e3, W3, st3⟩ := stC X2 hx hZ e2 Ar3 (j := (0 : Int32)) (inb_of S3 ⟨(by decide), (by decide)⟩) (g := (mkF m 15 #[.val (.int p0), .val (.int p1), .val (.int p2), .val (.int p3), .val (.int p4)] [(.int p1), (.int (0 : Int32)), (.ref b2), (.ref b2), (.ref b1), (.ref b1)])) rfl rfl (hb hby d2_15)
  refine OGo.by st3 ?_
  have N3 := Fr.snoc X3 N0 g_b2
  have K3 : Keep h0 h3 [] := (K2).wr W3 (Or.inr sz_b2)
  have V3 : Arv Z h3 b2 k2 .char (1 : Int32) [(.int (nar .char p1))] (.int (0 : Int32)) := Arv.set Ar3 q3 S3 M3 Hs3 G3 (fits_nar_char _) W3 0 rfl (Nat.le_of_ble_eq_true rfl)
  show OGo p e below _ (T3.setTop (mkF m 16 #[.val (.int p0), .val (.int p1), .val (.int p2), .val (.int p3), .val (.int p4)] [(.ref b2), (.ref b1), (.ref b1)]))
  have f5 : Exa Z h3 b1 "java/lang/String" := ((A1.ext E2).wr W3)
  have f6 : Fld Z h3 b1 "java/lang/String" "value" "[B" .null := ((F1_value.ext E2).other W3 (Or.inl ne_b1_b2))
  have f7 : Fld Z h3 b1 "java/lang/String" "coder" "B" (.int (0 : Int32)) := ((F1_coder.ext E2).other W3 (Or.inl ne_b1_b2))
  have f8 : Old Z n0 h3 := (((O0.ext E1).ext E2).wr W3 g_b2)
  have hp4 : ∀ c ∈ ([(nar .char p1)] : List Int32), ¬ c < 0 ∧ ¬ (255 : Int32) < c := by
    intro c hc; simp only [List.mem_cons, List.not_mem_nil, or_false] at hc
    subst hc; exact own_nar hn1 hc1
  have hws4 : ∀ d ∈ StrChars.Road.words, d.before av0 Z = true := fun d hd => hw d ((by decide +kernel : ∀ d ∈ StrChars.Road.words, d ∈ tables_1) d hd)
  obtain ⟨_, _, ⟨T4, L4, k4, n4⟩, -, X4, ⟨Lc4, hQ4, l4, y4, z4⟩, st4⟩ := X3.specialBack hx (y := (⟨"java/lang/String", "<init>", "([C)V"⟩ : MethodName)) rfl hown (mvT hZ (hw _ (List.mem_of_getElem? (i := 12) rfl))) (mvT hZ (hw _ (List.mem_of_getElem? (i := 13) rfl))) (mvT hZ (hw _ (List.mem_of_getElem? (i := 14) rfl))) (by decide) (StrChars.Road.backV (W := 1) hZ hws4 (kI := 4) (hw _ (List.mem_of_getElem? (i := 9) rfl)) (cs := ([(nar .char p1)] : List Int32)) (bs := ([(nar .char p1)] : List Int32).map (fun c => c.toInt8.toInt32)) (n := 1) g_b1 (Nat.le_trans Z0 K3.1) f5 f6 f7 V3 (S1.ext f8.2) hcz rfl rfl (by decide) (by decide) hp4 rfl (by decide) (by decide)) (g := (mkF m 16 #[.val (.int p0), .val (.int p1), .val (.int p2), .val (.int p3), .val (.int p4)] [(.ref b2), (.ref b1), (.ref b1)])) rfl (by rw [hml]; rfl) (Steps.refl _) (a := b1) (argsL := [(.ref b2)]) (rest := [(.ref b1)]) (lenOf own_pd0 rfl) rfl (by show 2 * 0 + _ ≤ _; exact Nat.le_of_eq rfl) (hb hby d2_16) (fun _ _ => ⟨rfl, e3, (by decide : 2 + 1 ≤ _), (by decide : 5 + 1 ≤ _)⟩)
  dsimp only [Pt.U, Pt.locs, Pt.cells, Pt.slots] at X4 l4 y4 z4 st4 hQ4
  subst l4 y4 z4
  obtain ⟨rfl, N4q, Kc4, GE4, GC4, t4, kb4, gt4, ge4, ne_t4_b1, GV4, GA4⟩ := hQ4
  have N4 := Fr.app N3 N4q
  have ne_b1_t4 : b1 ≠ t4 := Nat.ne_of_lt (Nat.lt_of_lt_of_le f5.lt ge4)
  have ne_b2_t4 : b2 ≠ t4 := Nat.ne_of_lt (Nat.lt_of_lt_of_le V3.lt ge4)
  have g_t4 : n0 ≤ t4 := Nat.le_trans (Nat.le_trans Z0 K3.1) ge4
  have sz_t4 : h0.size ≤ t4 := Nat.le_trans K3.1 ge4
  have K4 : Keep h0 T4.heap [] := (K3).trans Kc4 (fun x hx => by simp only [List.mem_cons, List.not_mem_nil, or_false] at hx; subst hx; exact Or.inr sz_b1)
  refine OGo.of st4 ?_
  show OGo p e below _ (T4.setTop (mkF m 19 #[.val (.int p0), .val (.int p1), .val (.int p2), .val (.int p3), .val (.int p4)] [(.ref b1)]))
  obtain ⟨fs, hr, hrun, hended, hW, hsame⟩ := X4.leave (v := some (.ref b1)) (fun h => by rw [Bd.returns] at h; cases h)
  refine OGo.ret (retOut X4 hx Bd.returns rfl (Or.inr (Or.inr (Or.inr (Or.inr ⟨rfl, rfl, rfl⟩)))) (hb hby d2_19) hr) hrun hended ⟨_, _, rfl, ?_, ⟨_, rfl⟩, hW, hsame.mono (by decide) (by decide)⟩
  show Q_rmMk1 Z p0 p1 p2 p3 p4 cz h0 n0 _ T4.heap _
  exact ⟨b1, t4, kb4, rfl, N4, K4, sz_b1, g_b1, sz_t4, g_t4, ne_b1_t4, GE4, GC4, GV4, GA4⟩
theorem d2_20 : decode method_3_code 20 = .ok (.iload_n 0, 1) := by decide +kernel
theorem d2_21 : decode method_3_code 21 = .ok (.iconst 2, 1) := by decide +kernel
theorem d2_22 : decode method_3_code 22 = .ok (.if_icmp .ne 22, 3) := by decide +kernel
theorem d2_25 : decode method_3_code 25 = .ok (.new 8, 3) := by decide +kernel
theorem d2_28 : decode method_3_code 28 = .ok (.dup, 1) := by decide +kernel
theorem d2_29 : decode method_3_code 29 = .ok (.iconst 2, 1) := by decide +kernel
theorem d2_30 : decode method_3_code 30 = .ok (.newarray .char, 2) := by decide +kernel
theorem d2_32 : decode method_3_code 32 = .ok (.dup, 1) := by decide +kernel
theorem d2_33 : decode method_3_code 33 = .ok (.iconst 0, 1) := by decide +kernel
theorem d2_34 : decode method_3_code 34 = .ok (.iload_n 1, 1) := by decide +kernel
theorem d2_35 : decode method_3_code 35 = .ok (.castore, 1) := by decide +kernel
theorem d2_36 : decode method_3_code 36 = .ok (.dup, 1) := by decide +kernel
theorem d2_37 : decode method_3_code 37 = .ok (.iconst 1, 1) := by decide +kernel
theorem d2_38 : decode method_3_code 38 = .ok (.iload_n 2, 1) := by decide +kernel
theorem d2_39 : decode method_3_code 39 = .ok (.castore, 1) := by decide +kernel
theorem d2_40 : decode method_3_code 40 = .ok (.invokespecial 10, 3) := by decide +kernel
theorem d2_43 : decode method_3_code 43 = .ok (.areturn, 1) := by decide +kernel
theorem ef_rmMk2 (m : MethodId) (p0 : Int32) (p1 : Int32) (p2 : Int32) (p3 : Int32) (p4 : Int32) : entryFrame m #[(.int p0), (.int p1), (.int p2), (.int p3), (.int p4)] 5 = mkF m 0 #[.val (.int p0), .val (.int p1), .val (.int p2), .val (.int p3), .val (.int p4)] [] := by first | (simp [entryFrame, mkF, argsToLocals, Value.category]; done) | rfl
def Q_rmMk2 (Z : State) (p0 : Int32) (p1 : Int32) (p2 : Int32) (p3 : Int32) (p4 : Int32) (cz : Int32) (h0 : Heap) (n0 : Nat) (v : Option Value) (h : Heap) (L : List Loc) : Prop := ∃ b : Addr, ∃ t : Addr, ∃ kb : ClassId, v = some (.ref b) ∧ Fr n0 L ∧ Keep h0 h [] ∧ (h0.size ≤ b) ∧ (n0 ≤ b) ∧ (h0.size ≤ t) ∧ (n0 ≤ t) ∧ (b ≠ t) ∧ (Exa Z h b "java/lang/String") ∧ (Fld Z h b "java/lang/String" "coder" "B" (.int (0 : Int32))) ∧ (Fld Z h b "java/lang/String" "value" "[B" (.ref t)) ∧ (Arv Z h t kb .byte (2 : Int32) ((([(nar .char p1), (nar .char p2)] : List Int32).map (fun c => c.toInt8.toInt32)).map Value.int) (.int 0))
set_option maxRecDepth 65536 in
set_option maxHeartbeats 40000000 in
theorem rmMk2 (l : Launch) (Z : State) (av0 : Array Value) (hw : ∀ d ∈ tables_1, d.before av0 Z = true) (ws : List Jvm.Cond) (p0 : Int32) (p1 : Int32) (p2 : Int32) (p3 : Int32) (p4 : Int32) (cz : Int32) (h0 : Heap) (n0 : Nat) (Z0 : n0 ≤ h0.size) (hk : p0 = (2 : Int32)) (hn1 : nar .char p1 = p1) (hc1 : ¬ p1 < 0 ∧ ¬ (255 : Int32) < p1) (hn2 : nar .char p2 = p2) (hc2 : ¬ p2 < 0 ∧ ¬ (255 : Int32) < p2) (hn3 : nar .char p3 = p3) (hc3 : ¬ p3 < 0 ∧ ¬ (255 : Int32) < p3) (hn4 : nar .char p4 = p4) (hc4 : ¬ p4 < 0 ∧ ¬ (255 : Int32) < p4) (O0 : Old Z n0 h0) (S1 : Sta Z Z.heap "java/lang/String" "COMPACT_STRINGS" "Z" (.int cz)) (hcz : ¬ cz = (0 : Int32)) :
    MetFree l (⟨"com/example/trusty_lock/trustylock/LockNameOfPinLaw", "make", "(ICCCC)Ljava/lang/String;"⟩ : MethodName) (head1 (Jvm.Cond.code (⟨"com/example/trusty_lock/trustylock/LockNameOfPinLaw", "make", "(ICCCC)Ljava/lang/String;"⟩ : MethodName) method_3_code 5 (some (.object "java/lang/String")) :: ws) ({ frames := 4, cells := 3, slots := 8, locals := 66 } : Room)) (fun a U => a = #[(.int p0), (.int p1), (.int p2), (.int p3), (.int p4)] ∧ Z.Warmed39 U.vm ∧ U.heap = h0) (fun _ _ _ _ _ => True) (fun _ U o U' => ∃ v L, o = .returned v ∧ Q_rmMk2 Z p0 p1 p2 p3 p4 cz h0 n0 v U'.heap L ∧ FrameEnd U o U' L ({ frames := 4, cells := 3, slots := 8, locals := 66 } : Room).cells ({ frames := 4, cells := 3, slots := 8, locals := 66 } : Room).slots) := by
  refine MetFree.of_bodySF (plainFor_of_name own_pn2) hisR ?_
  intro p e s m args below meth c s₁ Bd hml0 hP hK
  obtain ⟨rfl, hZ, hh⟩ := hP
  have hx := Bd.exec
  have hby := Bd.bytes
  have hml : c.maxLocals = 5 := hml0
  have hown : s.vm.findClass "com/example/trusty_lock/trustylock/LockNameOfPinLaw" = some m.cls := findClass_of_methodNamed Bd.named
  have hnm := (name_of_methodNamed Bd.named Bd.method).1
  have X0 : Stand p l e ({ frames := 4, cells := 3, slots := 8, locals := 66 } : Room) s m #[(.int p0), (.int p1), (.int p2), (.int p3), (.int p4)] below meth c s₁ [] 0 0 := Stand.of_body Bd
  have e0 : s₁.heap = h0 := by rw [← hh, Bd.state]; rfl
  have N0 := Fr.nil n0
  refine OGo.by (P := fun U' o => ∃ v L, o = .returned v ∧ Q_rmMk2 Z p0 p1 p2 p3 p4 cz h0 n0 v U'.heap L ∧ FrameEnd s o U' L ({ frames := 4, cells := 3, slots := 8, locals := 66 } : Room).cells ({ frames := 4, cells := 3, slots := 8, locals := 66 } : Room).slots) (fun t k => castTop (ef_rmMk2 m p0 p1 p2 p3 p4) k) ?_
  show OGo p e below _ (s₁.setTop (mkF m 0 #[.val (.int p0), .val (.int p1), .val (.int p2), .val (.int p3), .val (.int p4)] []))
  refine OGo.by (fun _ k => XS.iloadN X0.here hx rfl (hb hby d2_0) rfl k) ?_
  show OGo p e below _ (s₁.setTop (mkF m 1 #[.val (.int p0), .val (.int p1), .val (.int p2), .val (.int p3), .val (.int p4)] [(.int p0)]))
  refine OGo.by (fun _ k => XS.iconst X0.here hx rfl (hb hby d2_1) k) ?_
  show OGo p e below _ (s₁.setTop (mkF m 2 #[.val (.int p0), .val (.int p1), .val (.int p2), .val (.int p3), .val (.int p4)] [(.int (1 : Int32)), (.int p0)]))
  refine OGo.by (fun _ k => XS.icmpYes X0.here hx rfl (pc0 := 2) (pc' := 20) rfl (hb hby d2_2) rfl (feq (by rw [hk]; decide)).2 (by decide) (by decide) k) ?_
  show OGo p e below _ (s₁.setTop (mkF m 20 #[.val (.int p0), .val (.int p1), .val (.int p2), .val (.int p3), .val (.int p4)] []))
  refine OGo.by (fun _ k => XS.iloadN X0.here hx rfl (hb hby d2_20) rfl k) ?_
  show OGo p e below _ (s₁.setTop (mkF m 21 #[.val (.int p0), .val (.int p1), .val (.int p2), .val (.int p3), .val (.int p4)] [(.int p0)]))
  refine OGo.by (fun _ k => XS.iconst X0.here hx rfl (hb hby d2_21) k) ?_
  show OGo p e below _ (s₁.setTop (mkF m 22 #[.val (.int p0), .val (.int p1), .val (.int p2), .val (.int p3), .val (.int p4)] [(.int (2 : Int32)), (.int p0)]))
  refine OGo.by (fun _ k => XS.icmpNo X0.here hx rfl (hb hby d2_22) rfl (teq hk).2 k) ?_
  show OGo p e below _ (s₁.setTop (mkF m 25 #[.val (.int p0), .val (.int p1), .val (.int p2), .val (.int p3), .val (.int p4)] []))
  obtain ⟨T1, h1, X1, e1, E1, A1, D1, U1, st1⟩ := newO X0 hx hZ hown (hw _ (List.mem_of_getElem? (i := 8) rfl)) (hw _ (List.mem_of_getElem? (i := 9) rfl)) (hw _ (List.mem_of_getElem? (i := 10) rfl)) e0 (g := (mkF m 25 #[.val (.int p0), .val (.int p1), .val (.int p2), .val (.int p3), .val (.int p4)] [])) rfl (hb hby d2_25) (by decide) (by decide)
  obtain ⟨b1, g1⟩ : ∃ z, z = h0.size := ⟨_, rfl⟩
  rw [← g1] at A1 D1 U1 st1
  have g_b1 : n0 ≤ b1 := Nat.le_trans Z0 (Nat.le_of_eq g1.symm)
  have sz_b1 : h0.size ≤ b1 := Nat.le_trans (Nat.le_refl _) (Nat.le_of_eq g1.symm)
  refine OGo.by st1 ?_
  have K1 : Keep h0 h1 [] := ((Keep.refl h0 [])).ext E1
  have F1_coder : Fld Z h1 b1 "java/lang/String" "coder" "B" (.int (0 : Int32)) := D1 (Or.inr (hw _ (List.mem_of_getElem? (i := 35) rfl))) (ty := .byte) (by decide)
  have F1_value : Fld Z h1 b1 "java/lang/String" "value" "[B" .null := D1 (Or.inr (hw _ (List.mem_of_getElem? (i := 37) rfl))) (ty := (.array .byte)) (by decide)
  show OGo p e below _ (T1.setTop (mkF m 28 #[.val (.int p0), .val (.int p1), .val (.int p2), .val (.int p3), .val (.int p4)] [(.ref b1)]))
  refine OGo.by (fun _ k => XS.dup X1.here hx rfl (hb hby d2_28) rfl rfl k) ?_
  show OGo p e below _ (T1.setTop (mkF m 29 #[.val (.int p0), .val (.int p1), .val (.int p2), .val (.int p3), .val (.int p4)] [(.ref b1), (.ref b1)]))
  refine OGo.by (fun _ k => XS.iconst X1.here hx rfl (hb hby d2_29) k) ?_
  show OGo p e below _ (T1.setTop (mkF m 30 #[.val (.int p0), .val (.int p1), .val (.int p2), .val (.int p3), .val (.int p4)] [(.int (2 : Int32)), (.ref b1), (.ref b1)]))
  obtain ⟨T2, h2, k2, X2, e2, E2, A2, st2⟩ := newP X1 hx hZ (hw _ (List.mem_of_getElem? (i := 11) rfl)) e1 (g := (mkF m 30 #[.val (.int p0), .val (.int p1), .val (.int p2), .val (.int p3), .val (.int p4)] [(.int (2 : Int32)), (.ref b1), (.ref b1)])) rfl (hb hby d2_30) rfl (by decide : ¬ ((2 : Int32) < (0 : Int32))) (cap := 2) (by decide) (by decide) (by decide) (by decide)
  obtain ⟨b2, g2⟩ : ∃ z, z = h1.size := ⟨_, rfl⟩
  rw [← g2] at A2 st2
  have ne_b1_b2 : b1 ≠ b2 := Nat.ne_of_lt (Nat.lt_of_lt_of_le A1.lt (Nat.le_of_eq g2.symm))
  have g_b2 : n0 ≤ b2 := Nat.le_trans (Nat.le_trans Z0 K1.1) (Nat.le_of_eq g2.symm)
  have sz_b2 : h0.size ≤ b2 := Nat.le_trans K1.1 (Nat.le_of_eq g2.symm)
  refine OGo.by st2 ?_
  have K2 : Keep h0 h2 [] := (K1).ext E2
  have V2 : Arv Z h2 b2 k2 .char (2 : Int32) [(.int (0 : Int32)), (.int (0 : Int32))] (.int (0 : Int32)) := (Arv.new A2 (by decide)).pad (pad_rep [] (.int (0 : Int32)) 2)
  show OGo p e below _ (T2.setTop (mkF m 32 #[.val (.int p0), .val (.int p1), .val (.int p2), .val (.int p3), .val (.int p4)] [(.ref b2), (.ref b1), (.ref b1)]))
  refine OGo.by (fun _ k => XS.dup X2.here hx rfl (hb hby d2_32) rfl rfl k) ?_
  show OGo p e below _ (T2.setTop (mkF m 33 #[.val (.int p0), .val (.int p1), .val (.int p2), .val (.int p3), .val (.int p4)] [(.ref b2), (.ref b2), (.ref b1), (.ref b1)]))
  refine OGo.by (fun _ k => XS.iconst X2.here hx rfl (hb hby d2_33) k) ?_
  show OGo p e below _ (T2.setTop (mkF m 34 #[.val (.int p0), .val (.int p1), .val (.int p2), .val (.int p3), .val (.int p4)] [(.int (0 : Int32)), (.ref b2), (.ref b2), (.ref b1), (.ref b1)]))
  refine OGo.by (fun _ k => XS.iloadN X2.here hx rfl (hb hby d2_34) rfl k) ?_
  show OGo p e below _ (T2.setTop (mkF m 35 #[.val (.int p0), .val (.int p1), .val (.int p2), .val (.int p3), .val (.int p4)] [(.int p1), (.int (0 : Int32)), (.ref b2), (.ref b2), (.ref b1), (.ref b1)]))
  obtain ⟨cl3, Ar3, q3, S3, M3, Hs3, G3⟩ := id V2
  obtain ⟨T3, h3, X3, e3, W3, st3⟩ := stC X2 hx hZ e2 Ar3 (j := (0 : Int32)) (inb_of S3 ⟨(by decide), (by decide)⟩) (g := (mkF m 35 #[.val (.int p0), .val (.int p1), .val (.int p2), .val (.int p3), .val (.int p4)] [(.int p1), (.int (0 : Int32)), (.ref b2), (.ref b2), (.ref b1), (.ref b1)])) rfl rfl (hb hby d2_35)
  refine OGo.by st3 ?_
  have N3 := Fr.snoc X3 N0 g_b2
  have K3 : Keep h0 h3 [] := (K2).wr W3 (Or.inr sz_b2)
  have V3 : Arv Z h3 b2 k2 .char (2 : Int32) [(.int (nar .char p1)), (.int (0 : Int32))] (.int (0 : Int32)) := Arv.set Ar3 q3 S3 M3 Hs3 G3 (fits_nar_char _) W3 0 rfl (Nat.le_of_ble_eq_true rfl)
  show OGo p e below _ (T3.setTop (mkF m 36 #[.val (.int p0), .val (.int p1), .val (.int p2), .val (.int p3), .val (.int p4)] [(.ref b2), (.ref b1), (.ref b1)]))
  refine OGo.by (fun _ k => XS.dup X3.here hx rfl (hb hby d2_36) rfl rfl k) ?_
  show OGo p e below _ (T3.setTop (mkF m 37 #[.val (.int p0), .val (.int p1), .val (.int p2), .val (.int p3), .val (.int p4)] [(.ref b2), (.ref b2), (.ref b1), (.ref b1)]))
  refine OGo.by (fun _ k => XS.iconst X3.here hx rfl (hb hby d2_37) k) ?_
  show OGo p e below _ (T3.setTop (mkF m 38 #[.val (.int p0), .val (.int p1), .val (.int p2), .val (.int p3), .val (.int p4)] [(.int (1 : Int32)), (.ref b2), (.ref b2), (.ref b1), (.ref b1)]))
  refine OGo.by (fun _ k => XS.iloadN X3.here hx rfl (hb hby d2_38) rfl k) ?_
  show OGo p e below _ (T3.setTop (mkF m 39 #[.val (.int p0), .val (.int p1), .val (.int p2), .val (.int p3), .val (.int p4)] [(.int p2), (.int (1 : Int32)), (.ref b2), (.ref b2), (.ref b1), (.ref b1)]))
  obtain ⟨cl4, Ar4, q4, S4, M4, Hs4, G4⟩ := id V3
  obtain ⟨T4, h4, X4, e4, W4, st4⟩ := stC X3 hx hZ e3 Ar4 (j := (1 : Int32)) (inb_of S4 ⟨(by decide), (by decide)⟩) (g := (mkF m 39 #[.val (.int p0), .val (.int p1), .val (.int p2), .val (.int p3), .val (.int p4)] [(.int p2), (.int (1 : Int32)), (.ref b2), (.ref b2), (.ref b1), (.ref b1)])) rfl rfl (hb hby d2_39)
  refine OGo.by st4 ?_
  have N4 := Fr.snoc X4 N3 g_b2
  have K4 : Keep h0 h4 [] := (K3).wr W4 (Or.inr sz_b2)
  have V4 : Arv Z h4 b2 k2 .char (2 : Int32) [(.int (nar .char p1)), (.int (nar .char p2))] (.int (0 : Int32)) := Arv.set Ar4 q4 S4 M4 Hs4 G4 (fits_nar_char _) W4 1 rfl (Nat.le_of_ble_eq_true rfl)
  show OGo p e below _ (T4.setTop (mkF m 40 #[.val (.int p0), .val (.int p1), .val (.int p2), .val (.int p3), .val (.int p4)] [(.ref b2), (.ref b1), (.ref b1)]))
  have f6 : Exa Z h4 b1 "java/lang/String" := (((A1.ext E2).wr W3).wr W4)
  have f7 : Fld Z h4 b1 "java/lang/String" "value" "[B" .null := (((F1_value.ext E2).other W3 (Or.inl ne_b1_b2)).other W4 (Or.inl ne_b1_b2))
  have f8 : Fld Z h4 b1 "java/lang/String" "coder" "B" (.int (0 : Int32)) := (((F1_coder.ext E2).other W3 (Or.inl ne_b1_b2)).other W4 (Or.inl ne_b1_b2))
  have f9 : Old Z n0 h4 := ((((O0.ext E1).ext E2).wr W3 g_b2).wr W4 g_b2)
  have hp5 : ∀ c ∈ ([(nar .char p1), (nar .char p2)] : List Int32), ¬ c < 0 ∧ ¬ (255 : Int32) < c := by
    intro c hc; simp only [List.mem_cons, List.not_mem_nil, or_false] at hc
    rcases hc with rfl | rfl
    · exact own_nar hn1 hc1
    · exact own_nar hn2 hc2
  have hws5 : ∀ d ∈ StrChars.Road.words, d.before av0 Z = true := fun d hd => hw d ((by decide +kernel : ∀ d ∈ StrChars.Road.words, d ∈ tables_1) d hd)
  obtain ⟨_, _, ⟨T5, L5, k5, n5⟩, -, X5, ⟨Lc5, hQ5, l5, y5, z5⟩, st5⟩ := X4.specialBack hx (y := (⟨"java/lang/String", "<init>", "([C)V"⟩ : MethodName)) rfl hown (mvT hZ (hw _ (List.mem_of_getElem? (i := 12) rfl))) (mvT hZ (hw _ (List.mem_of_getElem? (i := 13) rfl))) (mvT hZ (hw _ (List.mem_of_getElem? (i := 14) rfl))) (by decide) (StrChars.Road.backV (W := 1) hZ hws5 (kI := 4) (hw _ (List.mem_of_getElem? (i := 9) rfl)) (cs := ([(nar .char p1), (nar .char p2)] : List Int32)) (bs := ([(nar .char p1), (nar .char p2)] : List Int32).map (fun c => c.toInt8.toInt32)) (n := 2) g_b1 (Nat.le_trans Z0 K4.1) f6 f7 f8 V4 (S1.ext f9.2) hcz rfl rfl (by decide) (by decide) hp5 rfl (by decide) (by decide)) (g := (mkF m 40 #[.val (.int p0), .val (.int p1), .val (.int p2), .val (.int p3), .val (.int p4)] [(.ref b2), (.ref b1), (.ref b1)])) rfl (by rw [hml]; rfl) (Steps.refl _) (a := b1) (argsL := [(.ref b2)]) (rest := [(.ref b1)]) (lenOf own_pd0 rfl) rfl (by show 2 * 0 + _ ≤ _; exact Nat.le_of_eq rfl) (hb hby d2_40) (fun _ _ => ⟨rfl, e4, (by decide : 2 + 1 ≤ _), (by decide : 6 + 2 ≤ _)⟩)
  dsimp only [Pt.U, Pt.locs, Pt.cells, Pt.slots] at X5 l5 y5 z5 st5 hQ5
  subst l5 y5 z5
  obtain ⟨rfl, N5q, Kc5, GE5, GC5, t5, kb5, gt5, ge5, ne_t5_b1, GV5, GA5⟩ := hQ5
  have N5 := Fr.app N4 N5q
  have ne_b1_t5 : b1 ≠ t5 := Nat.ne_of_lt (Nat.lt_of_lt_of_le f6.lt ge5)
  have ne_b2_t5 : b2 ≠ t5 := Nat.ne_of_lt (Nat.lt_of_lt_of_le V4.lt ge5)
  have g_t5 : n0 ≤ t5 := Nat.le_trans (Nat.le_trans Z0 K4.1) ge5
  have sz_t5 : h0.size ≤ t5 := Nat.le_trans K4.1 ge5
  have K5 : Keep h0 T5.heap [] := (K4).trans Kc5 (fun x hx => by simp only [List.mem_cons, List.not_mem_nil, or_false] at hx; subst hx; exact Or.inr sz_b1)
  refine OGo.of st5 ?_
  show OGo p e below _ (T5.setTop (mkF m 43 #[.val (.int p0), .val (.int p1), .val (.int p2), .val (.int p3), .val (.int p4)] [(.ref b1)]))
  obtain ⟨fs, hr, hrun, hended, hW, hsame⟩ := X5.leave (v := some (.ref b1)) (fun h => by rw [Bd.returns] at h; cases h)
  refine OGo.ret (retOut X5 hx Bd.returns rfl (Or.inr (Or.inr (Or.inr (Or.inr ⟨rfl, rfl, rfl⟩)))) (hb hby d2_43) hr) hrun hended ⟨_, _, rfl, ?_, ⟨_, rfl⟩, hW, hsame.mono (by decide) (by decide)⟩
  show Q_rmMk2 Z p0 p1 p2 p3 p4 cz h0 n0 _ T5.heap _
  exact ⟨b1, t5, kb5, rfl, N5, K5, sz_b1, g_b1, sz_t5, g_t5, ne_b1_t5, GE5, GC5, GV5, GA5⟩
theorem d2_44 : decode method_3_code 44 = .ok (.iload_n 0, 1) := by decide +kernel
theorem d2_45 : decode method_3_code 45 = .ok (.iconst 3, 1) := by decide +kernel
theorem d2_46 : decode method_3_code 46 = .ok (.if_icmp .ne 26, 3) := by decide +kernel
theorem d2_49 : decode method_3_code 49 = .ok (.new 8, 3) := by decide +kernel
theorem d2_52 : decode method_3_code 52 = .ok (.dup, 1) := by decide +kernel
theorem d2_53 : decode method_3_code 53 = .ok (.iconst 3, 1) := by decide +kernel
theorem d2_54 : decode method_3_code 54 = .ok (.newarray .char, 2) := by decide +kernel
theorem d2_56 : decode method_3_code 56 = .ok (.dup, 1) := by decide +kernel
theorem d2_57 : decode method_3_code 57 = .ok (.iconst 0, 1) := by decide +kernel
theorem d2_58 : decode method_3_code 58 = .ok (.iload_n 1, 1) := by decide +kernel
theorem d2_59 : decode method_3_code 59 = .ok (.castore, 1) := by decide +kernel
theorem d2_60 : decode method_3_code 60 = .ok (.dup, 1) := by decide +kernel
theorem d2_61 : decode method_3_code 61 = .ok (.iconst 1, 1) := by decide +kernel
theorem d2_62 : decode method_3_code 62 = .ok (.iload_n 2, 1) := by decide +kernel
theorem d2_63 : decode method_3_code 63 = .ok (.castore, 1) := by decide +kernel
theorem d2_64 : decode method_3_code 64 = .ok (.dup, 1) := by decide +kernel
theorem d2_65 : decode method_3_code 65 = .ok (.iconst 2, 1) := by decide +kernel
theorem d2_66 : decode method_3_code 66 = .ok (.iload_n 3, 1) := by decide +kernel
theorem d2_67 : decode method_3_code 67 = .ok (.castore, 1) := by decide +kernel
theorem d2_68 : decode method_3_code 68 = .ok (.invokespecial 10, 3) := by decide +kernel
theorem d2_71 : decode method_3_code 71 = .ok (.areturn, 1) := by decide +kernel
theorem ef_rmMk3 (m : MethodId) (p0 : Int32) (p1 : Int32) (p2 : Int32) (p3 : Int32) (p4 : Int32) : entryFrame m #[(.int p0), (.int p1), (.int p2), (.int p3), (.int p4)] 5 = mkF m 0 #[.val (.int p0), .val (.int p1), .val (.int p2), .val (.int p3), .val (.int p4)] [] := by first | (simp [entryFrame, mkF, argsToLocals, Value.category]; done) | rfl
def Q_rmMk3 (Z : State) (p0 : Int32) (p1 : Int32) (p2 : Int32) (p3 : Int32) (p4 : Int32) (cz : Int32) (h0 : Heap) (n0 : Nat) (v : Option Value) (h : Heap) (L : List Loc) : Prop := ∃ b : Addr, ∃ t : Addr, ∃ kb : ClassId, v = some (.ref b) ∧ Fr n0 L ∧ Keep h0 h [] ∧ (h0.size ≤ b) ∧ (n0 ≤ b) ∧ (h0.size ≤ t) ∧ (n0 ≤ t) ∧ (b ≠ t) ∧ (Exa Z h b "java/lang/String") ∧ (Fld Z h b "java/lang/String" "coder" "B" (.int (0 : Int32))) ∧ (Fld Z h b "java/lang/String" "value" "[B" (.ref t)) ∧ (Arv Z h t kb .byte (3 : Int32) ((([(nar .char p1), (nar .char p2), (nar .char p3)] : List Int32).map (fun c => c.toInt8.toInt32)).map Value.int) (.int 0))
set_option maxRecDepth 65536 in
set_option maxHeartbeats 40000000 in
theorem rmMk3 (l : Launch) (Z : State) (av0 : Array Value) (hw : ∀ d ∈ tables_1, d.before av0 Z = true) (ws : List Jvm.Cond) (p0 : Int32) (p1 : Int32) (p2 : Int32) (p3 : Int32) (p4 : Int32) (cz : Int32) (h0 : Heap) (n0 : Nat) (Z0 : n0 ≤ h0.size) (hk : p0 = (3 : Int32)) (hn1 : nar .char p1 = p1) (hc1 : ¬ p1 < 0 ∧ ¬ (255 : Int32) < p1) (hn2 : nar .char p2 = p2) (hc2 : ¬ p2 < 0 ∧ ¬ (255 : Int32) < p2) (hn3 : nar .char p3 = p3) (hc3 : ¬ p3 < 0 ∧ ¬ (255 : Int32) < p3) (hn4 : nar .char p4 = p4) (hc4 : ¬ p4 < 0 ∧ ¬ (255 : Int32) < p4) (O0 : Old Z n0 h0) (S1 : Sta Z Z.heap "java/lang/String" "COMPACT_STRINGS" "Z" (.int cz)) (hcz : ¬ cz = (0 : Int32)) :
    MetFree l (⟨"com/example/trusty_lock/trustylock/LockNameOfPinLaw", "make", "(ICCCC)Ljava/lang/String;"⟩ : MethodName) (head1 (Jvm.Cond.code (⟨"com/example/trusty_lock/trustylock/LockNameOfPinLaw", "make", "(ICCCC)Ljava/lang/String;"⟩ : MethodName) method_3_code 5 (some (.object "java/lang/String")) :: ws) ({ frames := 4, cells := 3, slots := 10, locals := 66 } : Room)) (fun a U => a = #[(.int p0), (.int p1), (.int p2), (.int p3), (.int p4)] ∧ Z.Warmed39 U.vm ∧ U.heap = h0) (fun _ _ _ _ _ => True) (fun _ U o U' => ∃ v L, o = .returned v ∧ Q_rmMk3 Z p0 p1 p2 p3 p4 cz h0 n0 v U'.heap L ∧ FrameEnd U o U' L ({ frames := 4, cells := 3, slots := 10, locals := 66 } : Room).cells ({ frames := 4, cells := 3, slots := 10, locals := 66 } : Room).slots) := by
  refine MetFree.of_bodySF (plainFor_of_name own_pn2) hisR ?_
  intro p e s m args below meth c s₁ Bd hml0 hP hK
  obtain ⟨rfl, hZ, hh⟩ := hP
  have hx := Bd.exec
  have hby := Bd.bytes
  have hml : c.maxLocals = 5 := hml0
  have hown : s.vm.findClass "com/example/trusty_lock/trustylock/LockNameOfPinLaw" = some m.cls := findClass_of_methodNamed Bd.named
  have hnm := (name_of_methodNamed Bd.named Bd.method).1
  have X0 : Stand p l e ({ frames := 4, cells := 3, slots := 10, locals := 66 } : Room) s m #[(.int p0), (.int p1), (.int p2), (.int p3), (.int p4)] below meth c s₁ [] 0 0 := Stand.of_body Bd
  have e0 : s₁.heap = h0 := by rw [← hh, Bd.state]; rfl
  have N0 := Fr.nil n0
  refine OGo.by (P := fun U' o => ∃ v L, o = .returned v ∧ Q_rmMk3 Z p0 p1 p2 p3 p4 cz h0 n0 v U'.heap L ∧ FrameEnd s o U' L ({ frames := 4, cells := 3, slots := 10, locals := 66 } : Room).cells ({ frames := 4, cells := 3, slots := 10, locals := 66 } : Room).slots) (fun t k => castTop (ef_rmMk3 m p0 p1 p2 p3 p4) k) ?_
  show OGo p e below _ (s₁.setTop (mkF m 0 #[.val (.int p0), .val (.int p1), .val (.int p2), .val (.int p3), .val (.int p4)] []))
  refine OGo.by (fun _ k => XS.iloadN X0.here hx rfl (hb hby d2_0) rfl k) ?_
  show OGo p e below _ (s₁.setTop (mkF m 1 #[.val (.int p0), .val (.int p1), .val (.int p2), .val (.int p3), .val (.int p4)] [(.int p0)]))
  refine OGo.by (fun _ k => XS.iconst X0.here hx rfl (hb hby d2_1) k) ?_
  show OGo p e below _ (s₁.setTop (mkF m 2 #[.val (.int p0), .val (.int p1), .val (.int p2), .val (.int p3), .val (.int p4)] [(.int (1 : Int32)), (.int p0)]))
  refine OGo.by (fun _ k => XS.icmpYes X0.here hx rfl (pc0 := 2) (pc' := 20) rfl (hb hby d2_2) rfl (feq (by rw [hk]; decide)).2 (by decide) (by decide) k) ?_
  show OGo p e below _ (s₁.setTop (mkF m 20 #[.val (.int p0), .val (.int p1), .val (.int p2), .val (.int p3), .val (.int p4)] []))
  refine OGo.by (fun _ k => XS.iloadN X0.here hx rfl (hb hby d2_20) rfl k) ?_
  show OGo p e below _ (s₁.setTop (mkF m 21 #[.val (.int p0), .val (.int p1), .val (.int p2), .val (.int p3), .val (.int p4)] [(.int p0)]))
  refine OGo.by (fun _ k => XS.iconst X0.here hx rfl (hb hby d2_21) k) ?_
  show OGo p e below _ (s₁.setTop (mkF m 22 #[.val (.int p0), .val (.int p1), .val (.int p2), .val (.int p3), .val (.int p4)] [(.int (2 : Int32)), (.int p0)]))
  refine OGo.by (fun _ k => XS.icmpYes X0.here hx rfl (pc0 := 22) (pc' := 44) rfl (hb hby d2_22) rfl (feq (by rw [hk]; decide)).2 (by decide) (by decide) k) ?_
  show OGo p e below _ (s₁.setTop (mkF m 44 #[.val (.int p0), .val (.int p1), .val (.int p2), .val (.int p3), .val (.int p4)] []))
  refine OGo.by (fun _ k => XS.iloadN X0.here hx rfl (hb hby d2_44) rfl k) ?_
  show OGo p e below _ (s₁.setTop (mkF m 45 #[.val (.int p0), .val (.int p1), .val (.int p2), .val (.int p3), .val (.int p4)] [(.int p0)]))
  refine OGo.by (fun _ k => XS.iconst X0.here hx rfl (hb hby d2_45) k) ?_
  show OGo p e below _ (s₁.setTop (mkF m 46 #[.val (.int p0), .val (.int p1), .val (.int p2), .val (.int p3), .val (.int p4)] [(.int (3 : Int32)), (.int p0)]))
  refine OGo.by (fun _ k => XS.icmpNo X0.here hx rfl (hb hby d2_46) rfl (teq hk).2 k) ?_
  show OGo p e below _ (s₁.setTop (mkF m 49 #[.val (.int p0), .val (.int p1), .val (.int p2), .val (.int p3), .val (.int p4)] []))
  obtain ⟨T1, h1, X1, e1, E1, A1, D1, U1, st1⟩ := newO X0 hx hZ hown (hw _ (List.mem_of_getElem? (i := 8) rfl)) (hw _ (List.mem_of_getElem? (i := 9) rfl)) (hw _ (List.mem_of_getElem? (i := 10) rfl)) e0 (g := (mkF m 49 #[.val (.int p0), .val (.int p1), .val (.int p2), .val (.int p3), .val (.int p4)] [])) rfl (hb hby d2_49) (by decide) (by decide)
  obtain ⟨b1, g1⟩ : ∃ z, z = h0.size := ⟨_, rfl⟩
  rw [← g1] at A1 D1 U1 st1
  have g_b1 : n0 ≤ b1 := Nat.le_trans Z0 (Nat.le_of_eq g1.symm)
  have sz_b1 : h0.size ≤ b1 := Nat.le_trans (Nat.le_refl _) (Nat.le_of_eq g1.symm)
  refine OGo.by st1 ?_
  have K1 : Keep h0 h1 [] := ((Keep.refl h0 [])).ext E1
  have F1_coder : Fld Z h1 b1 "java/lang/String" "coder" "B" (.int (0 : Int32)) := D1 (Or.inr (hw _ (List.mem_of_getElem? (i := 35) rfl))) (ty := .byte) (by decide)
  have F1_value : Fld Z h1 b1 "java/lang/String" "value" "[B" .null := D1 (Or.inr (hw _ (List.mem_of_getElem? (i := 37) rfl))) (ty := (.array .byte)) (by decide)
  show OGo p e below _ (T1.setTop (mkF m 52 #[.val (.int p0), .val (.int p1), .val (.int p2), .val (.int p3), .val (.int p4)] [(.ref b1)]))
  refine OGo.by (fun _ k => XS.dup X1.here hx rfl (hb hby d2_52) rfl rfl k) ?_
  show OGo p e below _ (T1.setTop (mkF m 53 #[.val (.int p0), .val (.int p1), .val (.int p2), .val (.int p3), .val (.int p4)] [(.ref b1), (.ref b1)]))
  refine OGo.by (fun _ k => XS.iconst X1.here hx rfl (hb hby d2_53) k) ?_
  show OGo p e below _ (T1.setTop (mkF m 54 #[.val (.int p0), .val (.int p1), .val (.int p2), .val (.int p3), .val (.int p4)] [(.int (3 : Int32)), (.ref b1), (.ref b1)]))
  obtain ⟨T2, h2, k2, X2, e2, E2, A2, st2⟩ := newP X1 hx hZ (hw _ (List.mem_of_getElem? (i := 11) rfl)) e1 (g := (mkF m 54 #[.val (.int p0), .val (.int p1), .val (.int p2), .val (.int p3), .val (.int p4)] [(.int (3 : Int32)), (.ref b1), (.ref b1)])) rfl (hb hby d2_54) rfl (by decide : ¬ ((3 : Int32) < (0 : Int32))) (cap := 3) (by decide) (by decide) (by decide) (by decide)
  obtain ⟨b2, g2⟩ : ∃ z, z = h1.size := ⟨_, rfl⟩
  rw [← g2] at A2 st2
  have ne_b1_b2 : b1 ≠ b2 := Nat.ne_of_lt (Nat.lt_of_lt_of_le A1.lt (Nat.le_of_eq g2.symm))
  have g_b2 : n0 ≤ b2 := Nat.le_trans (Nat.le_trans Z0 K1.1) (Nat.le_of_eq g2.symm)
  have sz_b2 : h0.size ≤ b2 := Nat.le_trans K1.1 (Nat.le_of_eq g2.symm)
  refine OGo.by st2 ?_
  have K2 : Keep h0 h2 [] := (K1).ext E2
  have V2 : Arv Z h2 b2 k2 .char (3 : Int32) [(.int (0 : Int32)), (.int (0 : Int32)), (.int (0 : Int32))] (.int (0 : Int32)) := (Arv.new A2 (by decide)).pad (pad_rep [] (.int (0 : Int32)) 3)
  show OGo p e below _ (T2.setTop (mkF m 56 #[.val (.int p0), .val (.int p1), .val (.int p2), .val (.int p3), .val (.int p4)] [(.ref b2), (.ref b1), (.ref b1)]))
  refine OGo.by (fun _ k => XS.dup X2.here hx rfl (hb hby d2_56) rfl rfl k) ?_
  show OGo p e below _ (T2.setTop (mkF m 57 #[.val (.int p0), .val (.int p1), .val (.int p2), .val (.int p3), .val (.int p4)] [(.ref b2), (.ref b2), (.ref b1), (.ref b1)]))
  refine OGo.by (fun _ k => XS.iconst X2.here hx rfl (hb hby d2_57) k) ?_
  show OGo p e below _ (T2.setTop (mkF m 58 #[.val (.int p0), .val (.int p1), .val (.int p2), .val (.int p3), .val (.int p4)] [(.int (0 : Int32)), (.ref b2), (.ref b2), (.ref b1), (.ref b1)]))
  refine OGo.by (fun _ k => XS.iloadN X2.here hx rfl (hb hby d2_58) rfl k) ?_
  show OGo p e below _ (T2.setTop (mkF m 59 #[.val (.int p0), .val (.int p1), .val (.int p2), .val (.int p3), .val (.int p4)] [(.int p1), (.int (0 : Int32)), (.ref b2), (.ref b2), (.ref b1), (.ref b1)]))
  obtain ⟨cl3, Ar3, q3, S3, M3, Hs3, G3⟩ := id V2
  obtain ⟨T3, h3, X3, e3, W3, st3⟩ := stC X2 hx hZ e2 Ar3 (j := (0 : Int32)) (inb_of S3 ⟨(by decide), (by decide)⟩) (g := (mkF m 59 #[.val (.int p0), .val (.int p1), .val (.int p2), .val (.int p3), .val (.int p4)] [(.int p1), (.int (0 : Int32)), (.ref b2), (.ref b2), (.ref b1), (.ref b1)])) rfl rfl (hb hby d2_59)
  refine OGo.by st3 ?_
  have N3 := Fr.snoc X3 N0 g_b2
  have K3 : Keep h0 h3 [] := (K2).wr W3 (Or.inr sz_b2)
  have V3 : Arv Z h3 b2 k2 .char (3 : Int32) [(.int (nar .char p1)), (.int (0 : Int32)), (.int (0 : Int32))] (.int (0 : Int32)) := Arv.set Ar3 q3 S3 M3 Hs3 G3 (fits_nar_char _) W3 0 rfl (Nat.le_of_ble_eq_true rfl)
  show OGo p e below _ (T3.setTop (mkF m 60 #[.val (.int p0), .val (.int p1), .val (.int p2), .val (.int p3), .val (.int p4)] [(.ref b2), (.ref b1), (.ref b1)]))
  refine OGo.by (fun _ k => XS.dup X3.here hx rfl (hb hby d2_60) rfl rfl k) ?_
  show OGo p e below _ (T3.setTop (mkF m 61 #[.val (.int p0), .val (.int p1), .val (.int p2), .val (.int p3), .val (.int p4)] [(.ref b2), (.ref b2), (.ref b1), (.ref b1)]))
  refine OGo.by (fun _ k => XS.iconst X3.here hx rfl (hb hby d2_61) k) ?_
  show OGo p e below _ (T3.setTop (mkF m 62 #[.val (.int p0), .val (.int p1), .val (.int p2), .val (.int p3), .val (.int p4)] [(.int (1 : Int32)), (.ref b2), (.ref b2), (.ref b1), (.ref b1)]))
  refine OGo.by (fun _ k => XS.iloadN X3.here hx rfl (hb hby d2_62) rfl k) ?_
  show OGo p e below _ (T3.setTop (mkF m 63 #[.val (.int p0), .val (.int p1), .val (.int p2), .val (.int p3), .val (.int p4)] [(.int p2), (.int (1 : Int32)), (.ref b2), (.ref b2), (.ref b1), (.ref b1)]))
  obtain ⟨cl4, Ar4, q4, S4, M4, Hs4, G4⟩ := id V3
  obtain ⟨T4, h4, X4, e4, W4, st4⟩ := stC X3 hx hZ e3 Ar4 (j := (1 : Int32)) (inb_of S4 ⟨(by decide), (by decide)⟩) (g := (mkF m 63 #[.val (.int p0), .val (.int p1), .val (.int p2), .val (.int p3), .val (.int p4)] [(.int p2), (.int (1 : Int32)), (.ref b2), (.ref b2), (.ref b1), (.ref b1)])) rfl rfl (hb hby d2_63)
  refine OGo.by st4 ?_
  have N4 := Fr.snoc X4 N3 g_b2
  have K4 : Keep h0 h4 [] := (K3).wr W4 (Or.inr sz_b2)
  have V4 : Arv Z h4 b2 k2 .char (3 : Int32) [(.int (nar .char p1)), (.int (nar .char p2)), (.int (0 : Int32))] (.int (0 : Int32)) := Arv.set Ar4 q4 S4 M4 Hs4 G4 (fits_nar_char _) W4 1 rfl (Nat.le_of_ble_eq_true rfl)
  show OGo p e below _ (T4.setTop (mkF m 64 #[.val (.int p0), .val (.int p1), .val (.int p2), .val (.int p3), .val (.int p4)] [(.ref b2), (.ref b1), (.ref b1)]))
  refine OGo.by (fun _ k => XS.dup X4.here hx rfl (hb hby d2_64) rfl rfl k) ?_
  show OGo p e below _ (T4.setTop (mkF m 65 #[.val (.int p0), .val (.int p1), .val (.int p2), .val (.int p3), .val (.int p4)] [(.ref b2), (.ref b2), (.ref b1), (.ref b1)]))
  refine OGo.by (fun _ k => XS.iconst X4.here hx rfl (hb hby d2_65) k) ?_
  show OGo p e below _ (T4.setTop (mkF m 66 #[.val (.int p0), .val (.int p1), .val (.int p2), .val (.int p3), .val (.int p4)] [(.int (2 : Int32)), (.ref b2), (.ref b2), (.ref b1), (.ref b1)]))
  refine OGo.by (fun _ k => XS.iloadN X4.here hx rfl (hb hby d2_66) rfl k) ?_
  show OGo p e below _ (T4.setTop (mkF m 67 #[.val (.int p0), .val (.int p1), .val (.int p2), .val (.int p3), .val (.int p4)] [(.int p3), (.int (2 : Int32)), (.ref b2), (.ref b2), (.ref b1), (.ref b1)]))
  obtain ⟨cl5, Ar5, q5, S5, M5, Hs5, G5⟩ := id V4
  obtain ⟨T5, h5, X5, e5, W5, st5⟩ := stC X4 hx hZ e4 Ar5 (j := (2 : Int32)) (inb_of S5 ⟨(by decide), (by decide)⟩) (g := (mkF m 67 #[.val (.int p0), .val (.int p1), .val (.int p2), .val (.int p3), .val (.int p4)] [(.int p3), (.int (2 : Int32)), (.ref b2), (.ref b2), (.ref b1), (.ref b1)])) rfl rfl (hb hby d2_67)
  refine OGo.by st5 ?_
  have N5 := Fr.snoc X5 N4 g_b2
  have K5 : Keep h0 h5 [] := (K4).wr W5 (Or.inr sz_b2)
  have V5 : Arv Z h5 b2 k2 .char (3 : Int32) [(.int (nar .char p1)), (.int (nar .char p2)), (.int (nar .char p3))] (.int (0 : Int32)) := Arv.set Ar5 q5 S5 M5 Hs5 G5 (fits_nar_char _) W5 2 rfl (Nat.le_of_ble_eq_true rfl)
  show OGo p e below _ (T5.setTop (mkF m 68 #[.val (.int p0), .val (.int p1), .val (.int p2), .val (.int p3), .val (.int p4)] [(.ref b2), (.ref b1), (.ref b1)]))
  have f7 : Exa Z h5 b1 "java/lang/String" := ((((A1.ext E2).wr W3).wr W4).wr W5)
  have f8 : Fld Z h5 b1 "java/lang/String" "value" "[B" .null := ((((F1_value.ext E2).other W3 (Or.inl ne_b1_b2)).other W4 (Or.inl ne_b1_b2)).other W5 (Or.inl ne_b1_b2))
  have f9 : Fld Z h5 b1 "java/lang/String" "coder" "B" (.int (0 : Int32)) := ((((F1_coder.ext E2).other W3 (Or.inl ne_b1_b2)).other W4 (Or.inl ne_b1_b2)).other W5 (Or.inl ne_b1_b2))
  have f10 : Old Z n0 h5 := (((((O0.ext E1).ext E2).wr W3 g_b2).wr W4 g_b2).wr W5 g_b2)
  have hp6 : ∀ c ∈ ([(nar .char p1), (nar .char p2), (nar .char p3)] : List Int32), ¬ c < 0 ∧ ¬ (255 : Int32) < c := by
    intro c hc; simp only [List.mem_cons, List.not_mem_nil, or_false] at hc
    rcases hc with rfl | rfl | rfl
    · exact own_nar hn1 hc1
    · exact own_nar hn2 hc2
    · exact own_nar hn3 hc3
  have hws6 : ∀ d ∈ StrChars.Road.words, d.before av0 Z = true := fun d hd => hw d ((by decide +kernel : ∀ d ∈ StrChars.Road.words, d ∈ tables_1) d hd)
  obtain ⟨_, _, ⟨T6, L6, k6, n6⟩, -, X6, ⟨Lc6, hQ6, l6, y6, z6⟩, st6⟩ := X5.specialBack hx (y := (⟨"java/lang/String", "<init>", "([C)V"⟩ : MethodName)) rfl hown (mvT hZ (hw _ (List.mem_of_getElem? (i := 12) rfl))) (mvT hZ (hw _ (List.mem_of_getElem? (i := 13) rfl))) (mvT hZ (hw _ (List.mem_of_getElem? (i := 14) rfl))) (by decide) (StrChars.Road.backV (W := 1) hZ hws6 (kI := 4) (hw _ (List.mem_of_getElem? (i := 9) rfl)) (cs := ([(nar .char p1), (nar .char p2), (nar .char p3)] : List Int32)) (bs := ([(nar .char p1), (nar .char p2), (nar .char p3)] : List Int32).map (fun c => c.toInt8.toInt32)) (n := 3) g_b1 (Nat.le_trans Z0 K5.1) f7 f8 f9 V5 (S1.ext f10.2) hcz rfl rfl (by decide) (by decide) hp6 rfl (by decide) (by decide)) (g := (mkF m 68 #[.val (.int p0), .val (.int p1), .val (.int p2), .val (.int p3), .val (.int p4)] [(.ref b2), (.ref b1), (.ref b1)])) rfl (by rw [hml]; rfl) (Steps.refl _) (a := b1) (argsL := [(.ref b2)]) (rest := [(.ref b1)]) (lenOf own_pd0 rfl) rfl (by show 2 * 0 + _ ≤ _; exact Nat.le_of_eq rfl) (hb hby d2_68) (fun _ _ => ⟨rfl, e5, (by decide : 2 + 1 ≤ _), (by decide : 7 + 3 ≤ _)⟩)
  dsimp only [Pt.U, Pt.locs, Pt.cells, Pt.slots] at X6 l6 y6 z6 st6 hQ6
  subst l6 y6 z6
  obtain ⟨rfl, N6q, Kc6, GE6, GC6, t6, kb6, gt6, ge6, ne_t6_b1, GV6, GA6⟩ := hQ6
  have N6 := Fr.app N5 N6q
  have ne_b1_t6 : b1 ≠ t6 := Nat.ne_of_lt (Nat.lt_of_lt_of_le f7.lt ge6)
  have ne_b2_t6 : b2 ≠ t6 := Nat.ne_of_lt (Nat.lt_of_lt_of_le V5.lt ge6)
  have g_t6 : n0 ≤ t6 := Nat.le_trans (Nat.le_trans Z0 K5.1) ge6
  have sz_t6 : h0.size ≤ t6 := Nat.le_trans K5.1 ge6
  have K6 : Keep h0 T6.heap [] := (K5).trans Kc6 (fun x hx => by simp only [List.mem_cons, List.not_mem_nil, or_false] at hx; subst hx; exact Or.inr sz_b1)
  refine OGo.of st6 ?_
  show OGo p e below _ (T6.setTop (mkF m 71 #[.val (.int p0), .val (.int p1), .val (.int p2), .val (.int p3), .val (.int p4)] [(.ref b1)]))
  obtain ⟨fs, hr, hrun, hended, hW, hsame⟩ := X6.leave (v := some (.ref b1)) (fun h => by rw [Bd.returns] at h; cases h)
  refine OGo.ret (retOut X6 hx Bd.returns rfl (Or.inr (Or.inr (Or.inr (Or.inr ⟨rfl, rfl, rfl⟩)))) (hb hby d2_71) hr) hrun hended ⟨_, _, rfl, ?_, ⟨_, rfl⟩, hW, hsame.mono (by decide) (by decide)⟩
  show Q_rmMk3 Z p0 p1 p2 p3 p4 cz h0 n0 _ T6.heap _
  exact ⟨b1, t6, kb6, rfl, N6, K6, sz_b1, g_b1, sz_t6, g_t6, ne_b1_t6, GE6, GC6, GV6, GA6⟩
theorem d2_72 : decode method_3_code 72 = .ok (.new 8, 3) := by decide +kernel
theorem d2_75 : decode method_3_code 75 = .ok (.dup, 1) := by decide +kernel
theorem d2_76 : decode method_3_code 76 = .ok (.iconst 4, 1) := by decide +kernel
theorem d2_77 : decode method_3_code 77 = .ok (.newarray .char, 2) := by decide +kernel
theorem d2_79 : decode method_3_code 79 = .ok (.dup, 1) := by decide +kernel
theorem d2_80 : decode method_3_code 80 = .ok (.iconst 0, 1) := by decide +kernel
theorem d2_81 : decode method_3_code 81 = .ok (.iload_n 1, 1) := by decide +kernel
theorem d2_82 : decode method_3_code 82 = .ok (.castore, 1) := by decide +kernel
theorem d2_83 : decode method_3_code 83 = .ok (.dup, 1) := by decide +kernel
theorem d2_84 : decode method_3_code 84 = .ok (.iconst 1, 1) := by decide +kernel
theorem d2_85 : decode method_3_code 85 = .ok (.iload_n 2, 1) := by decide +kernel
theorem d2_86 : decode method_3_code 86 = .ok (.castore, 1) := by decide +kernel
theorem d2_87 : decode method_3_code 87 = .ok (.dup, 1) := by decide +kernel
theorem d2_88 : decode method_3_code 88 = .ok (.iconst 2, 1) := by decide +kernel
theorem d2_89 : decode method_3_code 89 = .ok (.iload_n 3, 1) := by decide +kernel
theorem d2_90 : decode method_3_code 90 = .ok (.castore, 1) := by decide +kernel
theorem d2_91 : decode method_3_code 91 = .ok (.dup, 1) := by decide +kernel
theorem d2_92 : decode method_3_code 92 = .ok (.iconst 3, 1) := by decide +kernel
theorem d2_93 : decode method_3_code 93 = .ok (.iload 4, 2) := by decide +kernel
theorem d2_95 : decode method_3_code 95 = .ok (.castore, 1) := by decide +kernel
theorem d2_96 : decode method_3_code 96 = .ok (.invokespecial 10, 3) := by decide +kernel
theorem d2_99 : decode method_3_code 99 = .ok (.areturn, 1) := by decide +kernel
theorem ef_rmMk4 (m : MethodId) (p0 : Int32) (p1 : Int32) (p2 : Int32) (p3 : Int32) (p4 : Int32) : entryFrame m #[(.int p0), (.int p1), (.int p2), (.int p3), (.int p4)] 5 = mkF m 0 #[.val (.int p0), .val (.int p1), .val (.int p2), .val (.int p3), .val (.int p4)] [] := by first | (simp [entryFrame, mkF, argsToLocals, Value.category]; done) | rfl
def Q_rmMk4 (Z : State) (p0 : Int32) (p1 : Int32) (p2 : Int32) (p3 : Int32) (p4 : Int32) (cz : Int32) (h0 : Heap) (n0 : Nat) (v : Option Value) (h : Heap) (L : List Loc) : Prop := ∃ b : Addr, ∃ t : Addr, ∃ kb : ClassId, v = some (.ref b) ∧ Fr n0 L ∧ Keep h0 h [] ∧ (h0.size ≤ b) ∧ (n0 ≤ b) ∧ (h0.size ≤ t) ∧ (n0 ≤ t) ∧ (b ≠ t) ∧ (Exa Z h b "java/lang/String") ∧ (Fld Z h b "java/lang/String" "coder" "B" (.int (0 : Int32))) ∧ (Fld Z h b "java/lang/String" "value" "[B" (.ref t)) ∧ (Arv Z h t kb .byte (4 : Int32) ((([(nar .char p1), (nar .char p2), (nar .char p3), (nar .char p4)] : List Int32).map (fun c => c.toInt8.toInt32)).map Value.int) (.int 0))
set_option maxRecDepth 65536 in
set_option maxHeartbeats 40000000 in
theorem rmMk4 (l : Launch) (Z : State) (av0 : Array Value) (hw : ∀ d ∈ tables_1, d.before av0 Z = true) (ws : List Jvm.Cond) (p0 : Int32) (p1 : Int32) (p2 : Int32) (p3 : Int32) (p4 : Int32) (cz : Int32) (h0 : Heap) (n0 : Nat) (Z0 : n0 ≤ h0.size) (hk : p0 = (4 : Int32)) (hn1 : nar .char p1 = p1) (hc1 : ¬ p1 < 0 ∧ ¬ (255 : Int32) < p1) (hn2 : nar .char p2 = p2) (hc2 : ¬ p2 < 0 ∧ ¬ (255 : Int32) < p2) (hn3 : nar .char p3 = p3) (hc3 : ¬ p3 < 0 ∧ ¬ (255 : Int32) < p3) (hn4 : nar .char p4 = p4) (hc4 : ¬ p4 < 0 ∧ ¬ (255 : Int32) < p4) (O0 : Old Z n0 h0) (S1 : Sta Z Z.heap "java/lang/String" "COMPACT_STRINGS" "Z" (.int cz)) (hcz : ¬ cz = (0 : Int32)) :
    MetFree l (⟨"com/example/trusty_lock/trustylock/LockNameOfPinLaw", "make", "(ICCCC)Ljava/lang/String;"⟩ : MethodName) (head1 (Jvm.Cond.code (⟨"com/example/trusty_lock/trustylock/LockNameOfPinLaw", "make", "(ICCCC)Ljava/lang/String;"⟩ : MethodName) method_3_code 5 (some (.object "java/lang/String")) :: ws) ({ frames := 4, cells := 3, slots := 12, locals := 66 } : Room)) (fun a U => a = #[(.int p0), (.int p1), (.int p2), (.int p3), (.int p4)] ∧ Z.Warmed39 U.vm ∧ U.heap = h0) (fun _ _ _ _ _ => True) (fun _ U o U' => ∃ v L, o = .returned v ∧ Q_rmMk4 Z p0 p1 p2 p3 p4 cz h0 n0 v U'.heap L ∧ FrameEnd U o U' L ({ frames := 4, cells := 3, slots := 12, locals := 66 } : Room).cells ({ frames := 4, cells := 3, slots := 12, locals := 66 } : Room).slots) := by
  refine MetFree.of_bodySF (plainFor_of_name own_pn2) hisR ?_
  intro p e s m args below meth c s₁ Bd hml0 hP hK
  obtain ⟨rfl, hZ, hh⟩ := hP
  have hx := Bd.exec
  have hby := Bd.bytes
  have hml : c.maxLocals = 5 := hml0
  have hown : s.vm.findClass "com/example/trusty_lock/trustylock/LockNameOfPinLaw" = some m.cls := findClass_of_methodNamed Bd.named
  have hnm := (name_of_methodNamed Bd.named Bd.method).1
  have X0 : Stand p l e ({ frames := 4, cells := 3, slots := 12, locals := 66 } : Room) s m #[(.int p0), (.int p1), (.int p2), (.int p3), (.int p4)] below meth c s₁ [] 0 0 := Stand.of_body Bd
  have e0 : s₁.heap = h0 := by rw [← hh, Bd.state]; rfl
  have N0 := Fr.nil n0
  refine OGo.by (P := fun U' o => ∃ v L, o = .returned v ∧ Q_rmMk4 Z p0 p1 p2 p3 p4 cz h0 n0 v U'.heap L ∧ FrameEnd s o U' L ({ frames := 4, cells := 3, slots := 12, locals := 66 } : Room).cells ({ frames := 4, cells := 3, slots := 12, locals := 66 } : Room).slots) (fun t k => castTop (ef_rmMk4 m p0 p1 p2 p3 p4) k) ?_
  show OGo p e below _ (s₁.setTop (mkF m 0 #[.val (.int p0), .val (.int p1), .val (.int p2), .val (.int p3), .val (.int p4)] []))
  refine OGo.by (fun _ k => XS.iloadN X0.here hx rfl (hb hby d2_0) rfl k) ?_
  show OGo p e below _ (s₁.setTop (mkF m 1 #[.val (.int p0), .val (.int p1), .val (.int p2), .val (.int p3), .val (.int p4)] [(.int p0)]))
  refine OGo.by (fun _ k => XS.iconst X0.here hx rfl (hb hby d2_1) k) ?_
  show OGo p e below _ (s₁.setTop (mkF m 2 #[.val (.int p0), .val (.int p1), .val (.int p2), .val (.int p3), .val (.int p4)] [(.int (1 : Int32)), (.int p0)]))
  refine OGo.by (fun _ k => XS.icmpYes X0.here hx rfl (pc0 := 2) (pc' := 20) rfl (hb hby d2_2) rfl (feq (by rw [hk]; decide)).2 (by decide) (by decide) k) ?_
  show OGo p e below _ (s₁.setTop (mkF m 20 #[.val (.int p0), .val (.int p1), .val (.int p2), .val (.int p3), .val (.int p4)] []))
  refine OGo.by (fun _ k => XS.iloadN X0.here hx rfl (hb hby d2_20) rfl k) ?_
  show OGo p e below _ (s₁.setTop (mkF m 21 #[.val (.int p0), .val (.int p1), .val (.int p2), .val (.int p3), .val (.int p4)] [(.int p0)]))
  refine OGo.by (fun _ k => XS.iconst X0.here hx rfl (hb hby d2_21) k) ?_
  show OGo p e below _ (s₁.setTop (mkF m 22 #[.val (.int p0), .val (.int p1), .val (.int p2), .val (.int p3), .val (.int p4)] [(.int (2 : Int32)), (.int p0)]))
  refine OGo.by (fun _ k => XS.icmpYes X0.here hx rfl (pc0 := 22) (pc' := 44) rfl (hb hby d2_22) rfl (feq (by rw [hk]; decide)).2 (by decide) (by decide) k) ?_
  show OGo p e below _ (s₁.setTop (mkF m 44 #[.val (.int p0), .val (.int p1), .val (.int p2), .val (.int p3), .val (.int p4)] []))
  refine OGo.by (fun _ k => XS.iloadN X0.here hx rfl (hb hby d2_44) rfl k) ?_
  show OGo p e below _ (s₁.setTop (mkF m 45 #[.val (.int p0), .val (.int p1), .val (.int p2), .val (.int p3), .val (.int p4)] [(.int p0)]))
  refine OGo.by (fun _ k => XS.iconst X0.here hx rfl (hb hby d2_45) k) ?_
  show OGo p e below _ (s₁.setTop (mkF m 46 #[.val (.int p0), .val (.int p1), .val (.int p2), .val (.int p3), .val (.int p4)] [(.int (3 : Int32)), (.int p0)]))
  refine OGo.by (fun _ k => XS.icmpYes X0.here hx rfl (pc0 := 46) (pc' := 72) rfl (hb hby d2_46) rfl (feq (by rw [hk]; decide)).2 (by decide) (by decide) k) ?_
  show OGo p e below _ (s₁.setTop (mkF m 72 #[.val (.int p0), .val (.int p1), .val (.int p2), .val (.int p3), .val (.int p4)] []))
  obtain ⟨T1, h1, X1, e1, E1, A1, D1, U1, st1⟩ := newO X0 hx hZ hown (hw _ (List.mem_of_getElem? (i := 8) rfl)) (hw _ (List.mem_of_getElem? (i := 9) rfl)) (hw _ (List.mem_of_getElem? (i := 10) rfl)) e0 (g := (mkF m 72 #[.val (.int p0), .val (.int p1), .val (.int p2), .val (.int p3), .val (.int p4)] [])) rfl (hb hby d2_72) (by decide) (by decide)
  obtain ⟨b1, g1⟩ : ∃ z, z = h0.size := ⟨_, rfl⟩
  rw [← g1] at A1 D1 U1 st1
  have g_b1 : n0 ≤ b1 := Nat.le_trans Z0 (Nat.le_of_eq g1.symm)
  have sz_b1 : h0.size ≤ b1 := Nat.le_trans (Nat.le_refl _) (Nat.le_of_eq g1.symm)
  refine OGo.by st1 ?_
  have K1 : Keep h0 h1 [] := ((Keep.refl h0 [])).ext E1
  have F1_coder : Fld Z h1 b1 "java/lang/String" "coder" "B" (.int (0 : Int32)) := D1 (Or.inr (hw _ (List.mem_of_getElem? (i := 35) rfl))) (ty := .byte) (by decide)
  have F1_value : Fld Z h1 b1 "java/lang/String" "value" "[B" .null := D1 (Or.inr (hw _ (List.mem_of_getElem? (i := 37) rfl))) (ty := (.array .byte)) (by decide)
  show OGo p e below _ (T1.setTop (mkF m 75 #[.val (.int p0), .val (.int p1), .val (.int p2), .val (.int p3), .val (.int p4)] [(.ref b1)]))
  refine OGo.by (fun _ k => XS.dup X1.here hx rfl (hb hby d2_75) rfl rfl k) ?_
  show OGo p e below _ (T1.setTop (mkF m 76 #[.val (.int p0), .val (.int p1), .val (.int p2), .val (.int p3), .val (.int p4)] [(.ref b1), (.ref b1)]))
  refine OGo.by (fun _ k => XS.iconst X1.here hx rfl (hb hby d2_76) k) ?_
  show OGo p e below _ (T1.setTop (mkF m 77 #[.val (.int p0), .val (.int p1), .val (.int p2), .val (.int p3), .val (.int p4)] [(.int (4 : Int32)), (.ref b1), (.ref b1)]))
  obtain ⟨T2, h2, k2, X2, e2, E2, A2, st2⟩ := newP X1 hx hZ (hw _ (List.mem_of_getElem? (i := 11) rfl)) e1 (g := (mkF m 77 #[.val (.int p0), .val (.int p1), .val (.int p2), .val (.int p3), .val (.int p4)] [(.int (4 : Int32)), (.ref b1), (.ref b1)])) rfl (hb hby d2_77) rfl (by decide : ¬ ((4 : Int32) < (0 : Int32))) (cap := 4) (by decide) (by decide) (by decide) (by decide)
  obtain ⟨b2, g2⟩ : ∃ z, z = h1.size := ⟨_, rfl⟩
  rw [← g2] at A2 st2
  have ne_b1_b2 : b1 ≠ b2 := Nat.ne_of_lt (Nat.lt_of_lt_of_le A1.lt (Nat.le_of_eq g2.symm))
  have g_b2 : n0 ≤ b2 := Nat.le_trans (Nat.le_trans Z0 K1.1) (Nat.le_of_eq g2.symm)
  have sz_b2 : h0.size ≤ b2 := Nat.le_trans K1.1 (Nat.le_of_eq g2.symm)
  refine OGo.by st2 ?_
  have K2 : Keep h0 h2 [] := (K1).ext E2
  have V2 : Arv Z h2 b2 k2 .char (4 : Int32) [(.int (0 : Int32)), (.int (0 : Int32)), (.int (0 : Int32)), (.int (0 : Int32))] (.int (0 : Int32)) := (Arv.new A2 (by decide)).pad (pad_rep [] (.int (0 : Int32)) 4)
  show OGo p e below _ (T2.setTop (mkF m 79 #[.val (.int p0), .val (.int p1), .val (.int p2), .val (.int p3), .val (.int p4)] [(.ref b2), (.ref b1), (.ref b1)]))
  refine OGo.by (fun _ k => XS.dup X2.here hx rfl (hb hby d2_79) rfl rfl k) ?_
  show OGo p e below _ (T2.setTop (mkF m 80 #[.val (.int p0), .val (.int p1), .val (.int p2), .val (.int p3), .val (.int p4)] [(.ref b2), (.ref b2), (.ref b1), (.ref b1)]))
  refine OGo.by (fun _ k => XS.iconst X2.here hx rfl (hb hby d2_80) k) ?_
  show OGo p e below _ (T2.setTop (mkF m 81 #[.val (.int p0), .val (.int p1), .val (.int p2), .val (.int p3), .val (.int p4)] [(.int (0 : Int32)), (.ref b2), (.ref b2), (.ref b1), (.ref b1)]))
  refine OGo.by (fun _ k => XS.iloadN X2.here hx rfl (hb hby d2_81) rfl k) ?_
  show OGo p e below _ (T2.setTop (mkF m 82 #[.val (.int p0), .val (.int p1), .val (.int p2), .val (.int p3), .val (.int p4)] [(.int p1), (.int (0 : Int32)), (.ref b2), (.ref b2), (.ref b1), (.ref b1)]))
  obtain ⟨cl3, Ar3, q3, S3, M3, Hs3, G3⟩ := id V2
  obtain ⟨T3, h3, X3, e3, W3, st3⟩ := stC X2 hx hZ e2 Ar3 (j := (0 : Int32)) (inb_of S3 ⟨(by decide), (by decide)⟩) (g := (mkF m 82 #[.val (.int p0), .val (.int p1), .val (.int p2), .val (.int p3), .val (.int p4)] [(.int p1), (.int (0 : Int32)), (.ref b2), (.ref b2), (.ref b1), (.ref b1)])) rfl rfl (hb hby d2_82)
  refine OGo.by st3 ?_
  have N3 := Fr.snoc X3 N0 g_b2
  have K3 : Keep h0 h3 [] := (K2).wr W3 (Or.inr sz_b2)
  have V3 : Arv Z h3 b2 k2 .char (4 : Int32) [(.int (nar .char p1)), (.int (0 : Int32)), (.int (0 : Int32)), (.int (0 : Int32))] (.int (0 : Int32)) := Arv.set Ar3 q3 S3 M3 Hs3 G3 (fits_nar_char _) W3 0 rfl (Nat.le_of_ble_eq_true rfl)
  show OGo p e below _ (T3.setTop (mkF m 83 #[.val (.int p0), .val (.int p1), .val (.int p2), .val (.int p3), .val (.int p4)] [(.ref b2), (.ref b1), (.ref b1)]))
  refine OGo.by (fun _ k => XS.dup X3.here hx rfl (hb hby d2_83) rfl rfl k) ?_
  show OGo p e below _ (T3.setTop (mkF m 84 #[.val (.int p0), .val (.int p1), .val (.int p2), .val (.int p3), .val (.int p4)] [(.ref b2), (.ref b2), (.ref b1), (.ref b1)]))
  refine OGo.by (fun _ k => XS.iconst X3.here hx rfl (hb hby d2_84) k) ?_
  show OGo p e below _ (T3.setTop (mkF m 85 #[.val (.int p0), .val (.int p1), .val (.int p2), .val (.int p3), .val (.int p4)] [(.int (1 : Int32)), (.ref b2), (.ref b2), (.ref b1), (.ref b1)]))
  refine OGo.by (fun _ k => XS.iloadN X3.here hx rfl (hb hby d2_85) rfl k) ?_
  show OGo p e below _ (T3.setTop (mkF m 86 #[.val (.int p0), .val (.int p1), .val (.int p2), .val (.int p3), .val (.int p4)] [(.int p2), (.int (1 : Int32)), (.ref b2), (.ref b2), (.ref b1), (.ref b1)]))
  obtain ⟨cl4, Ar4, q4, S4, M4, Hs4, G4⟩ := id V3
  obtain ⟨T4, h4, X4, e4, W4, st4⟩ := stC X3 hx hZ e3 Ar4 (j := (1 : Int32)) (inb_of S4 ⟨(by decide), (by decide)⟩) (g := (mkF m 86 #[.val (.int p0), .val (.int p1), .val (.int p2), .val (.int p3), .val (.int p4)] [(.int p2), (.int (1 : Int32)), (.ref b2), (.ref b2), (.ref b1), (.ref b1)])) rfl rfl (hb hby d2_86)
  refine OGo.by st4 ?_
  have N4 := Fr.snoc X4 N3 g_b2
  have K4 : Keep h0 h4 [] := (K3).wr W4 (Or.inr sz_b2)
  have V4 : Arv Z h4 b2 k2 .char (4 : Int32) [(.int (nar .char p1)), (.int (nar .char p2)), (.int (0 : Int32)), (.int (0 : Int32))] (.int (0 : Int32)) := Arv.set Ar4 q4 S4 M4 Hs4 G4 (fits_nar_char _) W4 1 rfl (Nat.le_of_ble_eq_true rfl)
  show OGo p e below _ (T4.setTop (mkF m 87 #[.val (.int p0), .val (.int p1), .val (.int p2), .val (.int p3), .val (.int p4)] [(.ref b2), (.ref b1), (.ref b1)]))
  refine OGo.by (fun _ k => XS.dup X4.here hx rfl (hb hby d2_87) rfl rfl k) ?_
  show OGo p e below _ (T4.setTop (mkF m 88 #[.val (.int p0), .val (.int p1), .val (.int p2), .val (.int p3), .val (.int p4)] [(.ref b2), (.ref b2), (.ref b1), (.ref b1)]))
  refine OGo.by (fun _ k => XS.iconst X4.here hx rfl (hb hby d2_88) k) ?_
  show OGo p e below _ (T4.setTop (mkF m 89 #[.val (.int p0), .val (.int p1), .val (.int p2), .val (.int p3), .val (.int p4)] [(.int (2 : Int32)), (.ref b2), (.ref b2), (.ref b1), (.ref b1)]))
  refine OGo.by (fun _ k => XS.iloadN X4.here hx rfl (hb hby d2_89) rfl k) ?_
  show OGo p e below _ (T4.setTop (mkF m 90 #[.val (.int p0), .val (.int p1), .val (.int p2), .val (.int p3), .val (.int p4)] [(.int p3), (.int (2 : Int32)), (.ref b2), (.ref b2), (.ref b1), (.ref b1)]))
  obtain ⟨cl5, Ar5, q5, S5, M5, Hs5, G5⟩ := id V4
  obtain ⟨T5, h5, X5, e5, W5, st5⟩ := stC X4 hx hZ e4 Ar5 (j := (2 : Int32)) (inb_of S5 ⟨(by decide), (by decide)⟩) (g := (mkF m 90 #[.val (.int p0), .val (.int p1), .val (.int p2), .val (.int p3), .val (.int p4)] [(.int p3), (.int (2 : Int32)), (.ref b2), (.ref b2), (.ref b1), (.ref b1)])) rfl rfl (hb hby d2_90)
  refine OGo.by st5 ?_
  have N5 := Fr.snoc X5 N4 g_b2
  have K5 : Keep h0 h5 [] := (K4).wr W5 (Or.inr sz_b2)
  have V5 : Arv Z h5 b2 k2 .char (4 : Int32) [(.int (nar .char p1)), (.int (nar .char p2)), (.int (nar .char p3)), (.int (0 : Int32))] (.int (0 : Int32)) := Arv.set Ar5 q5 S5 M5 Hs5 G5 (fits_nar_char _) W5 2 rfl (Nat.le_of_ble_eq_true rfl)
  show OGo p e below _ (T5.setTop (mkF m 91 #[.val (.int p0), .val (.int p1), .val (.int p2), .val (.int p3), .val (.int p4)] [(.ref b2), (.ref b1), (.ref b1)]))
  refine OGo.by (fun _ k => XS.dup X5.here hx rfl (hb hby d2_91) rfl rfl k) ?_
  show OGo p e below _ (T5.setTop (mkF m 92 #[.val (.int p0), .val (.int p1), .val (.int p2), .val (.int p3), .val (.int p4)] [(.ref b2), (.ref b2), (.ref b1), (.ref b1)]))
  refine OGo.by (fun _ k => XS.iconst X5.here hx rfl (hb hby d2_92) k) ?_
  show OGo p e below _ (T5.setTop (mkF m 93 #[.val (.int p0), .val (.int p1), .val (.int p2), .val (.int p3), .val (.int p4)] [(.int (3 : Int32)), (.ref b2), (.ref b2), (.ref b1), (.ref b1)]))
  refine OGo.by (fun _ k => XS.iload X5.here hx rfl (hb hby d2_93) rfl k) ?_
  show OGo p e below _ (T5.setTop (mkF m 95 #[.val (.int p0), .val (.int p1), .val (.int p2), .val (.int p3), .val (.int p4)] [(.int p4), (.int (3 : Int32)), (.ref b2), (.ref b2), (.ref b1), (.ref b1)]))
  obtain ⟨cl6, Ar6, q6, S6, M6, Hs6, G6⟩ := id V5
  obtain ⟨T6, h6, X6, e6, W6, st6⟩ := stC X5 hx hZ e5 Ar6 (j := (3 : Int32)) (inb_of S6 ⟨(by decide), (by decide)⟩) (g := (mkF m 95 #[.val (.int p0), .val (.int p1), .val (.int p2), .val (.int p3), .val (.int p4)] [(.int p4), (.int (3 : Int32)), (.ref b2), (.ref b2), (.ref b1), (.ref b1)])) rfl rfl (hb hby d2_95)
  refine OGo.by st6 ?_
  have N6 := Fr.snoc X6 N5 g_b2
  have K6 : Keep h0 h6 [] := (K5).wr W6 (Or.inr sz_b2)
  have V6 : Arv Z h6 b2 k2 .char (4 : Int32) [(.int (nar .char p1)), (.int (nar .char p2)), (.int (nar .char p3)), (.int (nar .char p4))] (.int (0 : Int32)) := Arv.set Ar6 q6 S6 M6 Hs6 G6 (fits_nar_char _) W6 3 rfl (Nat.le_of_ble_eq_true rfl)
  show OGo p e below _ (T6.setTop (mkF m 96 #[.val (.int p0), .val (.int p1), .val (.int p2), .val (.int p3), .val (.int p4)] [(.ref b2), (.ref b1), (.ref b1)]))
  have f8 : Exa Z h6 b1 "java/lang/String" := (((((A1.ext E2).wr W3).wr W4).wr W5).wr W6)
  have f9 : Fld Z h6 b1 "java/lang/String" "value" "[B" .null := (((((F1_value.ext E2).other W3 (Or.inl ne_b1_b2)).other W4 (Or.inl ne_b1_b2)).other W5 (Or.inl ne_b1_b2)).other W6 (Or.inl ne_b1_b2))
  have f10 : Fld Z h6 b1 "java/lang/String" "coder" "B" (.int (0 : Int32)) := (((((F1_coder.ext E2).other W3 (Or.inl ne_b1_b2)).other W4 (Or.inl ne_b1_b2)).other W5 (Or.inl ne_b1_b2)).other W6 (Or.inl ne_b1_b2))
  have f11 : Old Z n0 h6 := ((((((O0.ext E1).ext E2).wr W3 g_b2).wr W4 g_b2).wr W5 g_b2).wr W6 g_b2)
  have hp7 : ∀ c ∈ ([(nar .char p1), (nar .char p2), (nar .char p3), (nar .char p4)] : List Int32), ¬ c < 0 ∧ ¬ (255 : Int32) < c := by
    intro c hc; simp only [List.mem_cons, List.not_mem_nil, or_false] at hc
    rcases hc with rfl | rfl | rfl | rfl
    · exact own_nar hn1 hc1
    · exact own_nar hn2 hc2
    · exact own_nar hn3 hc3
    · exact own_nar hn4 hc4
  have hws7 : ∀ d ∈ StrChars.Road.words, d.before av0 Z = true := fun d hd => hw d ((by decide +kernel : ∀ d ∈ StrChars.Road.words, d ∈ tables_1) d hd)
  obtain ⟨_, _, ⟨T7, L7, k7, n7⟩, -, X7, ⟨Lc7, hQ7, l7, y7, z7⟩, st7⟩ := X6.specialBack hx (y := (⟨"java/lang/String", "<init>", "([C)V"⟩ : MethodName)) rfl hown (mvT hZ (hw _ (List.mem_of_getElem? (i := 12) rfl))) (mvT hZ (hw _ (List.mem_of_getElem? (i := 13) rfl))) (mvT hZ (hw _ (List.mem_of_getElem? (i := 14) rfl))) (by decide) (StrChars.Road.backV (W := 1) hZ hws7 (kI := 4) (hw _ (List.mem_of_getElem? (i := 9) rfl)) (cs := ([(nar .char p1), (nar .char p2), (nar .char p3), (nar .char p4)] : List Int32)) (bs := ([(nar .char p1), (nar .char p2), (nar .char p3), (nar .char p4)] : List Int32).map (fun c => c.toInt8.toInt32)) (n := 4) g_b1 (Nat.le_trans Z0 K6.1) f8 f9 f10 V6 (S1.ext f11.2) hcz rfl rfl (by decide) (by decide) hp7 rfl (by decide) (by decide)) (g := (mkF m 96 #[.val (.int p0), .val (.int p1), .val (.int p2), .val (.int p3), .val (.int p4)] [(.ref b2), (.ref b1), (.ref b1)])) rfl (by rw [hml]; rfl) (Steps.refl _) (a := b1) (argsL := [(.ref b2)]) (rest := [(.ref b1)]) (lenOf own_pd0 rfl) rfl (by show 2 * 0 + _ ≤ _; exact Nat.le_of_eq rfl) (hb hby d2_96) (fun _ _ => ⟨rfl, e6, (by decide : 2 + 1 ≤ _), (by decide : 8 + 4 ≤ _)⟩)
  dsimp only [Pt.U, Pt.locs, Pt.cells, Pt.slots] at X7 l7 y7 z7 st7 hQ7
  subst l7 y7 z7
  obtain ⟨rfl, N7q, Kc7, GE7, GC7, t7, kb7, gt7, ge7, ne_t7_b1, GV7, GA7⟩ := hQ7
  have N7 := Fr.app N6 N7q
  have ne_b1_t7 : b1 ≠ t7 := Nat.ne_of_lt (Nat.lt_of_lt_of_le f8.lt ge7)
  have ne_b2_t7 : b2 ≠ t7 := Nat.ne_of_lt (Nat.lt_of_lt_of_le V6.lt ge7)
  have g_t7 : n0 ≤ t7 := Nat.le_trans (Nat.le_trans Z0 K6.1) ge7
  have sz_t7 : h0.size ≤ t7 := Nat.le_trans K6.1 ge7
  have K7 : Keep h0 T7.heap [] := (K6).trans Kc7 (fun x hx => by simp only [List.mem_cons, List.not_mem_nil, or_false] at hx; subst hx; exact Or.inr sz_b1)
  refine OGo.of st7 ?_
  show OGo p e below _ (T7.setTop (mkF m 99 #[.val (.int p0), .val (.int p1), .val (.int p2), .val (.int p3), .val (.int p4)] [(.ref b1)]))
  obtain ⟨fs, hr, hrun, hended, hW, hsame⟩ := X7.leave (v := some (.ref b1)) (fun h => by rw [Bd.returns] at h; cases h)
  refine OGo.ret (retOut X7 hx Bd.returns rfl (Or.inr (Or.inr (Or.inr (Or.inr ⟨rfl, rfl, rfl⟩)))) (hb hby d2_99) hr) hrun hended ⟨_, _, rfl, ?_, ⟨_, rfl⟩, hW, hsame.mono (by decide) (by decide)⟩
  show Q_rmMk4 Z p0 p1 p2 p3 p4 cz h0 n0 _ T7.heap _
  exact ⟨b1, t7, kb7, rfl, N7, K7, sz_b1, g_b1, sz_t7, g_t7, ne_b1_t7, GE7, GC7, GV7, GA7⟩
theorem d10_0 : decode jdk_31_method_11_code 0 = .ok (.aload_n 0, 1) := by decide +kernel
theorem d10_1 : decode jdk_31_method_11_code 1 = .ok (.ifnonnull 12, 3) := by decide +kernel
theorem d10_13 : decode jdk_31_method_11_code 13 = .ok (.aload_n 0, 1) := by decide +kernel
theorem d10_14 : decode jdk_31_method_11_code 14 = .ok (.areturn, 1) := by decide +kernel
theorem own_pn10 : plainName "java/util/Objects" = true := by first | (simp [plainName, overriddenIn]; done) | decide +kernel
theorem ef_rm10 (m : MethodId) (a0 : Addr) (a1 : Addr) : entryFrame m #[(.ref a0), (.ref a1)] 2 = mkF m 0 #[.val (.ref a0), .val (.ref a1)] [] := by first | (simp [entryFrame, mkF, argsToLocals, Value.category]; done) | rfl
def Q_rm10 (Z : State) (a0 : Addr) (a1 : Addr) (h0 : Heap) (n0 : Nat) (v : Option Value) (h : Heap) (L : List Loc) : Prop := v = some (.ref a0) ∧ Fr n0 L ∧ h = h0
set_option maxRecDepth 65536 in
set_option maxHeartbeats 40000000 in
theorem rm10 (l : Launch) (Z : State) (av0 : Array Value) (hw : ∀ d ∈ tables_1, d.before av0 Z = true) (ws : List Jvm.Cond) (a0 : Addr) (a1 : Addr) (h0 : Heap) (n0 : Nat) (Z0 : n0 ≤ h0.size) :
    MetFree l (⟨"java/util/Objects", "requireNonNull", "(Ljava/lang/Object;Ljava/lang/String;)Ljava/lang/Object;"⟩ : MethodName) (head1 (Jvm.Cond.code (⟨"java/util/Objects", "requireNonNull", "(Ljava/lang/Object;Ljava/lang/String;)Ljava/lang/Object;"⟩ : MethodName) jdk_31_method_11_code 2 (some (.object "java/lang/Object")) :: ws) ({ frames := 0, cells := 0, slots := 0, locals := 0 } : Room)) (fun a U => a = #[(.ref a0), (.ref a1)] ∧ Z.Warmed39 U.vm ∧ U.heap = h0) (fun _ _ _ _ _ => True) (fun _ U o U' => ∃ v L, o = .returned v ∧ Q_rm10 Z a0 a1 h0 n0 v U'.heap L ∧ FrameEnd U o U' L ({ frames := 0, cells := 0, slots := 0, locals := 0 } : Room).cells ({ frames := 0, cells := 0, slots := 0, locals := 0 } : Room).slots) := by
  refine MetFree.of_bodySF (plainFor_of_name own_pn10) hisR ?_
  intro p e s m args below meth c s₁ Bd hml0 hP hK
  obtain ⟨rfl, hZ, hh⟩ := hP
  have hx := Bd.exec
  have hby := Bd.bytes
  have hml : c.maxLocals = 2 := hml0
  have hown : s.vm.findClass "java/util/Objects" = some m.cls := findClass_of_methodNamed Bd.named
  have hnm := (name_of_methodNamed Bd.named Bd.method).1
  have X0 : Stand p l e ({ frames := 0, cells := 0, slots := 0, locals := 0 } : Room) s m #[(.ref a0), (.ref a1)] below meth c s₁ [] 0 0 := Stand.of_body Bd
  have e0 : s₁.heap = h0 := by rw [← hh, Bd.state]; rfl
  have N0 := Fr.nil n0
  refine OGo.by (P := fun U' o => ∃ v L, o = .returned v ∧ Q_rm10 Z a0 a1 h0 n0 v U'.heap L ∧ FrameEnd s o U' L ({ frames := 0, cells := 0, slots := 0, locals := 0 } : Room).cells ({ frames := 0, cells := 0, slots := 0, locals := 0 } : Room).slots) (fun t k => castTop (ef_rm10 m a0 a1) k) ?_
  show OGo p e below _ (s₁.setTop (mkF m 0 #[.val (.ref a0), .val (.ref a1)] []))
  refine OGo.by (fun _ k => XS.aloadN X0.here hx rfl (hb hby d10_0) rfl rfl k) ?_
  show OGo p e below _ (s₁.setTop (mkF m 1 #[.val (.ref a0), .val (.ref a1)] [(.ref a0)]))
  refine OGo.by (fun _ k => XS.ifnonnullYes X0.here hx rfl (pc0 := 1) (pc' := 13) rfl (hb hby d10_1) rfl (by decide) (by decide) k) ?_
  show OGo p e below _ (s₁.setTop (mkF m 13 #[.val (.ref a0), .val (.ref a1)] []))
  refine OGo.by (fun _ k => XS.aloadN X0.here hx rfl (hb hby d10_13) rfl rfl k) ?_
  show OGo p e below _ (s₁.setTop (mkF m 14 #[.val (.ref a0), .val (.ref a1)] [(.ref a0)]))
  obtain ⟨fs, hr, hrun, hended, hW, hsame⟩ := X0.leave (v := some (.ref a0)) (fun h => by rw [Bd.returns] at h; cases h)
  refine OGo.ret (retOut X0 hx Bd.returns rfl (Or.inr (Or.inr (Or.inr (Or.inr ⟨rfl, rfl, rfl⟩)))) (hb hby d10_14) hr) hrun hended ⟨_, _, rfl, ?_, ⟨_, rfl⟩, hW, hsame.mono (by decide) (by decide)⟩
  show Q_rm10 Z a0 a1 h0 n0 _ s₁.heap _
  rw [e0]
  exact ⟨rfl, N0, rfl⟩
theorem d20_0 : decode prog_9_method_1_code 0 = .ok (.aload_n 0, 1) := by decide +kernel
theorem d20_1 : decode prog_9_method_1_code 1 = .ok (.invokespecial 1, 3) := by decide +kernel
theorem d20_4 : decode prog_9_method_1_code 4 = .ok (.aload_n 0, 1) := by decide +kernel
theorem d20_5 : decode prog_9_method_1_code 5 = .ok (.aload_n 1, 1) := by decide +kernel
theorem d20_6 : decode prog_9_method_1_code 6 = .ok (.putfield 7, 3) := by decide +kernel
theorem d20_9 : decode prog_9_method_1_code 9 = .ok (.return_, 1) := by decide +kernel
theorem own_pn20 : plainName "com/example/trusty_lock/trustylock/LockName" = true := by first | (simp [plainName, overriddenIn]; done) | decide +kernel
theorem ef_rm20 (m : MethodId) (a0 : Addr) (a1 : Addr) : entryFrame m #[(.ref a0), (.ref a1)] 2 = mkF m 0 #[.val (.ref a0), .val (.ref a1)] [] := by first | (simp [entryFrame, mkF, argsToLocals, Value.category]; done) | rfl
def Q_rm20 (Z : State) (a0 : Addr) (a1 : Addr) (h0 : Heap) (n0 : Nat) (v : Option Value) (h : Heap) (L : List Loc) : Prop := v = none ∧ Fr n0 L ∧ Keep h0 h [a0] ∧ (Exa Z h a0 "com/example/trusty_lock/trustylock/LockName") ∧ (Fld Z h a0 "com/example/trusty_lock/trustylock/LockName" "name" "Ljava/lang/String;" (.ref a1))
set_option maxRecDepth 65536 in
set_option maxHeartbeats 40000000 in
theorem rm20 (l : Launch) (Z : State) (av0 : Array Value) (hw : ∀ d ∈ tables_1, d.before av0 Z = true) (ws : List Jvm.Cond) (a0 : Addr) (a1 : Addr) (h0 : Heap) (n0 : Nat) (Z0 : n0 ≤ h0.size) (E0 : Exa Z h0 a0 "com/example/trusty_lock/trustylock/LockName") (F0 : Fld Z h0 a0 "com/example/trusty_lock/trustylock/LockName" "name" "Ljava/lang/String;" .null) (g_a0 : n0 ≤ a0) :
    MetFree l (⟨"com/example/trusty_lock/trustylock/LockName", "<init>", "(Ljava/lang/String;)V"⟩ : MethodName) (head1 (Jvm.Cond.code (⟨"com/example/trusty_lock/trustylock/LockName", "<init>", "(Ljava/lang/String;)V"⟩ : MethodName) prog_9_method_1_code 2 none :: ws) ({ frames := 1, cells := 0, slots := 0, locals := 12 } : Room)) (fun a U => a = #[(.ref a0), (.ref a1)] ∧ Z.Warmed39 U.vm ∧ U.heap = h0) (fun _ _ _ _ _ => True) (fun _ U o U' => ∃ v L, o = .returned v ∧ Q_rm20 Z a0 a1 h0 n0 v U'.heap L ∧ FrameEnd U o U' L ({ frames := 1, cells := 0, slots := 0, locals := 12 } : Room).cells ({ frames := 1, cells := 0, slots := 0, locals := 12 } : Room).slots) := by
  refine MetFree.of_bodySF (plainFor_of_name own_pn20) hisR ?_
  intro p e s m args below meth c s₁ Bd hml0 hP hK
  obtain ⟨rfl, hZ, hh⟩ := hP
  have hx := Bd.exec
  have hby := Bd.bytes
  have hml : c.maxLocals = 2 := hml0
  have hown : s.vm.findClass "com/example/trusty_lock/trustylock/LockName" = some m.cls := findClass_of_methodNamed Bd.named
  have hnm := (name_of_methodNamed Bd.named Bd.method).1
  have X0 : Stand p l e ({ frames := 1, cells := 0, slots := 0, locals := 12 } : Room) s m #[(.ref a0), (.ref a1)] below meth c s₁ [] 0 0 := Stand.of_body Bd
  have e0 : s₁.heap = h0 := by rw [← hh, Bd.state]; rfl
  have N0 := Fr.nil n0
  refine OGo.by (P := fun U' o => ∃ v L, o = .returned v ∧ Q_rm20 Z a0 a1 h0 n0 v U'.heap L ∧ FrameEnd s o U' L ({ frames := 1, cells := 0, slots := 0, locals := 12 } : Room).cells ({ frames := 1, cells := 0, slots := 0, locals := 12 } : Room).slots) (fun t k => castTop (ef_rm20 m a0 a1) k) ?_
  show OGo p e below _ (s₁.setTop (mkF m 0 #[.val (.ref a0), .val (.ref a1)] []))
  refine OGo.by (fun _ k => XS.aloadN X0.here hx rfl (hb hby d20_0) rfl rfl k) ?_
  show OGo p e below _ (s₁.setTop (mkF m 1 #[.val (.ref a0), .val (.ref a1)] [(.ref a0)]))
  obtain ⟨T1, X1, e1, st1⟩ := initO X0 hx hZ hown (hw _ (List.mem_of_getElem? (i := 94) rfl)) (hw _ (List.mem_of_getElem? (i := 20) rfl)) (hw _ (List.mem_of_getElem? (i := 21) rfl)) e0 (g := (mkF m 1 #[.val (.ref a0), .val (.ref a1)] [(.ref a0)])) rfl (by rw [hml]; rfl) rfl (hb hby d20_1) (by decide) (W := 0) (by show 2 * 0 + _ ≤ _; exact Nat.le_of_eq rfl) (by decide)
  refine OGo.by st1 ?_
  show OGo p e below _ (T1.setTop (mkF m 4 #[.val (.ref a0), .val (.ref a1)] []))
  refine OGo.by (fun _ k => XS.aloadN X1.here hx rfl (hb hby d20_4) rfl rfl k) ?_
  show OGo p e below _ (T1.setTop (mkF m 5 #[.val (.ref a0), .val (.ref a1)] [(.ref a0)]))
  refine OGo.by (fun _ k => XS.aloadN X1.here hx rfl (hb hby d20_5) rfl rfl k) ?_
  show OGo p e below _ (T1.setTop (mkF m 6 #[.val (.ref a0), .val (.ref a1)] [(.ref a1), (.ref a0)]))
  obtain ⟨T2, h2, X2, e2, W2, st2⟩ := putF X1 hx hZ hown (host := "") (Or.inl (hw _ (List.mem_of_getElem? (i := 95) rfl))) Via.refl e1 F0 E0 (Or.inr ⟨(hw _ (List.mem_of_getElem? (i := 96) rfl)), rfl, hnm⟩) (hw _ (List.mem_of_getElem? (i := 90) rfl)) (ty := (.object "java/lang/String")) (by decide) rfl rfl (g := (mkF m 6 #[.val (.ref a0), .val (.ref a1)] [(.ref a1), (.ref a0)])) rfl rfl (hb hby d20_6)
  refine OGo.by st2 ?_
  have Fw2 := F0.same W2
  have N2 := Fr.snoc X2 N0 g_a0
  have K2 : Keep h0 h2 [a0] := ((Keep.refl h0 [a0])).wr W2 (Or.inl (List.mem_of_getElem? (i := 0) rfl))
  show OGo p e below _ (T2.setTop (mkF m 9 #[.val (.ref a0), .val (.ref a1)] []))
  obtain ⟨fs, hr, hrun, hended, hW, hsame⟩ := X2.leave (v := none) (fun _ => rfl)
  refine OGo.ret (X2.returnOut hx Bd.returns (hb hby d20_9) hr) hrun hended ⟨_, _, rfl, ?_, ⟨_, rfl⟩, hW, hsame.mono (by decide) (by decide)⟩
  show Q_rm20 Z a0 a1 h0 n0 _ T2.heap _
  rw [e2]
  have f3 : Exa Z h2 a0 "com/example/trusty_lock/trustylock/LockName" := (E0.wr W2)
  exact ⟨rfl, N2, K2, f3, Fw2⟩
theorem d21_0 : decode prog_9_method_5_code 0 = .ok (.aload_n 0, 1) := by decide +kernel
theorem d21_1 : decode prog_9_method_5_code 1 = .ok (.getfield 7, 3) := by decide +kernel
theorem d21_4 : decode prog_9_method_5_code 4 = .ok (.areturn, 1) := by decide +kernel
theorem own_pn21 : plainName "com/example/trusty_lock/trustylock/LockName" = true := by first | (simp [plainName, overriddenIn]; done) | decide +kernel
theorem ef_rm21 (m : MethodId) (a0 : Addr) : entryFrame m #[(.ref a0)] 1 = mkF m 0 #[.val (.ref a0)] [] := by first | (simp [entryFrame, mkF, argsToLocals, Value.category]; done) | rfl
def Q_rm21 (Z : State) (a0 : Addr) (w : Addr) (h0 : Heap) (n0 : Nat) (v : Option Value) (h : Heap) (L : List Loc) : Prop := v = some (.ref w) ∧ Fr n0 L ∧ h = h0
set_option maxRecDepth 65536 in
set_option maxHeartbeats 40000000 in
theorem rm21 (l : Launch) (Z : State) (av0 : Array Value) (hw : ∀ d ∈ tables_1, d.before av0 Z = true) (ws : List Jvm.Cond) (a0 : Addr) (w : Addr) (h0 : Heap) (n0 : Nat) (Z0 : n0 ≤ h0.size) (F0 : Fld Z h0 a0 "com/example/trusty_lock/trustylock/LockName" "name" "Ljava/lang/String;" (.ref w)) :
    MetFree l (⟨"com/example/trusty_lock/trustylock/LockName", "toString", "()Ljava/lang/String;"⟩ : MethodName) (head1 (Jvm.Cond.code (⟨"com/example/trusty_lock/trustylock/LockName", "toString", "()Ljava/lang/String;"⟩ : MethodName) prog_9_method_5_code 1 (some (.object "java/lang/String")) :: ws) ({ frames := 0, cells := 0, slots := 0, locals := 0 } : Room)) (fun a U => a = #[(.ref a0)] ∧ Z.Warmed39 U.vm ∧ U.heap = h0) (fun _ _ _ _ _ => True) (fun _ U o U' => ∃ v L, o = .returned v ∧ Q_rm21 Z a0 w h0 n0 v U'.heap L ∧ FrameEnd U o U' L ({ frames := 0, cells := 0, slots := 0, locals := 0 } : Room).cells ({ frames := 0, cells := 0, slots := 0, locals := 0 } : Room).slots) := by
  refine MetFree.of_bodySF (plainFor_of_name own_pn21) hisR ?_
  intro p e s m args below meth c s₁ Bd hml0 hP hK
  obtain ⟨rfl, hZ, hh⟩ := hP
  have hx := Bd.exec
  have hby := Bd.bytes
  have hml : c.maxLocals = 1 := hml0
  have hown : s.vm.findClass "com/example/trusty_lock/trustylock/LockName" = some m.cls := findClass_of_methodNamed Bd.named
  have hnm := (name_of_methodNamed Bd.named Bd.method).1
  have X0 : Stand p l e ({ frames := 0, cells := 0, slots := 0, locals := 0 } : Room) s m #[(.ref a0)] below meth c s₁ [] 0 0 := Stand.of_body Bd
  have e0 : s₁.heap = h0 := by rw [← hh, Bd.state]; rfl
  have N0 := Fr.nil n0
  refine OGo.by (P := fun U' o => ∃ v L, o = .returned v ∧ Q_rm21 Z a0 w h0 n0 v U'.heap L ∧ FrameEnd s o U' L ({ frames := 0, cells := 0, slots := 0, locals := 0 } : Room).cells ({ frames := 0, cells := 0, slots := 0, locals := 0 } : Room).slots) (fun t k => castTop (ef_rm21 m a0) k) ?_
  show OGo p e below _ (s₁.setTop (mkF m 0 #[.val (.ref a0)] []))
  refine OGo.by (fun _ k => XS.aloadN X0.here hx rfl (hb hby d21_0) rfl rfl k) ?_
  show OGo p e below _ (s₁.setTop (mkF m 1 #[.val (.ref a0)] [(.ref a0)]))
  obtain ⟨T1, X1, e1, st1⟩ := getF X0 hx hZ hown (host := "") (Or.inl (hw _ (List.mem_of_getElem? (i := 95) rfl))) Via.refl e0 F0 (g := (mkF m 1 #[.val (.ref a0)] [(.ref a0)])) rfl rfl (hb hby d21_1)
  refine OGo.by st1 ?_
  show OGo p e below _ (T1.setTop (mkF m 4 #[.val (.ref a0)] [(.ref w)]))
  obtain ⟨fs, hr, hrun, hended, hW, hsame⟩ := X1.leave (v := some (.ref w)) (fun h => by rw [Bd.returns] at h; cases h)
  refine OGo.ret (retOut X1 hx Bd.returns rfl (Or.inr (Or.inr (Or.inr (Or.inr ⟨rfl, rfl, rfl⟩)))) (hb hby d21_4) hr) hrun hended ⟨_, _, rfl, ?_, ⟨_, rfl⟩, hW, hsame.mono (by decide) (by decide)⟩
  show Q_rm21 Z a0 w h0 n0 _ T1.heap _
  rw [e1]
  exact ⟨rfl, N0, rfl⟩
theorem d22_0 : decode jdk_42_method_66_code 0 = .ok (.aload_n 0, 1) := by decide +kernel
theorem d22_1 : decode jdk_42_method_66_code 1 = .ok (.aload_n 1, 1) := by decide +kernel
theorem d22_2 : decode jdk_42_method_66_code 2 = .ok (.if_acmp .ne 5, 3) := by decide +kernel
theorem d22_5 : decode jdk_42_method_66_code 5 = .ok (.iconst 1, 1) := by decide +kernel
theorem d22_6 : decode jdk_42_method_66_code 6 = .ok (.ireturn, 1) := by decide +kernel
theorem own_pn22 : plainName "java/lang/String" = true := by first | (simp [plainName, overriddenIn]; done) | decide +kernel
theorem ef_rmSame (m : MethodId) (a0 : Addr) : entryFrame m #[(.ref a0), (.ref a0)] 3 = mkF m 0 #[.val (.ref a0), .val (.ref a0), .unset] [] := by first | (simp [entryFrame, mkF, argsToLocals, Value.category]; done) | rfl
def Q_rmSame (Z : State) (a0 : Addr) (h0 : Heap) (n0 : Nat) (v : Option Value) (h : Heap) (L : List Loc) : Prop := v = some (.int (1 : Int32)) ∧ Fr n0 L ∧ h = h0
set_option maxRecDepth 65536 in
set_option maxHeartbeats 40000000 in
theorem rmSame (l : Launch) (Z : State) (av0 : Array Value) (hw : ∀ d ∈ tables_1, d.before av0 Z = true) (ws : List Jvm.Cond) (a0 : Addr) (h0 : Heap) (n0 : Nat) (Z0 : n0 ≤ h0.size) :
    MetFree l (⟨"java/lang/String", "equals", "(Ljava/lang/Object;)Z"⟩ : MethodName) (head1 (Jvm.Cond.code (⟨"java/lang/String", "equals", "(Ljava/lang/Object;)Z"⟩ : MethodName) jdk_42_method_66_code 3 (some .boolean) :: ws) ({ frames := 0, cells := 0, slots := 0, locals := 0 } : Room)) (fun a U => a = #[(.ref a0), (.ref a0)] ∧ Z.Warmed39 U.vm ∧ U.heap = h0) (fun _ _ _ _ _ => True) (fun _ U o U' => ∃ v L, o = .returned v ∧ Q_rmSame Z a0 h0 n0 v U'.heap L ∧ FrameEnd U o U' L ({ frames := 0, cells := 0, slots := 0, locals := 0 } : Room).cells ({ frames := 0, cells := 0, slots := 0, locals := 0 } : Room).slots) := by
  refine MetFree.of_bodySF (plainFor_of_name own_pn22) hisR ?_
  intro p e s m args below meth c s₁ Bd hml0 hP hK
  obtain ⟨rfl, hZ, hh⟩ := hP
  have hx := Bd.exec
  have hby := Bd.bytes
  have hml : c.maxLocals = 3 := hml0
  have hown : s.vm.findClass "java/lang/String" = some m.cls := findClass_of_methodNamed Bd.named
  have hnm := (name_of_methodNamed Bd.named Bd.method).1
  have X0 : Stand p l e ({ frames := 0, cells := 0, slots := 0, locals := 0 } : Room) s m #[(.ref a0), (.ref a0)] below meth c s₁ [] 0 0 := Stand.of_body Bd
  have e0 : s₁.heap = h0 := by rw [← hh, Bd.state]; rfl
  have N0 := Fr.nil n0
  refine OGo.by (P := fun U' o => ∃ v L, o = .returned v ∧ Q_rmSame Z a0 h0 n0 v U'.heap L ∧ FrameEnd s o U' L ({ frames := 0, cells := 0, slots := 0, locals := 0 } : Room).cells ({ frames := 0, cells := 0, slots := 0, locals := 0 } : Room).slots) (fun t k => castTop (ef_rmSame m a0) k) ?_
  show OGo p e below _ (s₁.setTop (mkF m 0 #[.val (.ref a0), .val (.ref a0), .unset] []))
  refine OGo.by (fun _ k => XS.aloadN X0.here hx rfl (hb hby d22_0) rfl rfl k) ?_
  show OGo p e below _ (s₁.setTop (mkF m 1 #[.val (.ref a0), .val (.ref a0), .unset] [(.ref a0)]))
  refine OGo.by (fun _ k => XS.aloadN X0.here hx rfl (hb hby d22_1) rfl rfl k) ?_
  show OGo p e below _ (s₁.setTop (mkF m 2 #[.val (.ref a0), .val (.ref a0), .unset] [(.ref a0), (.ref a0)]))
  refine OGo.by (fun _ k => Jvm.RoadKit.acmp (g := (mkF m 2 #[.val (.ref a0), .val (.ref a0), .unset] [(.ref a0), (.ref a0)])) X0 hx rfl rfl rfl (pc0 := 2) (pc' := 5) (same := true) rfl (hb hby d22_2) rfl (decide_eq_true rfl) (by decide) (by decide) k) ?_
  show OGo p e below _ (s₁.setTop (mkF m 5 #[.val (.ref a0), .val (.ref a0), .unset] []))
  refine OGo.by (fun _ k => XS.iconst X0.here hx rfl (hb hby d22_5) k) ?_
  show OGo p e below _ (s₁.setTop (mkF m 6 #[.val (.ref a0), .val (.ref a0), .unset] [(.int (1 : Int32))]))
  obtain ⟨fs, hr, hrun, hended, hW, hsame⟩ := X0.leave (v := some (.int (1 : Int32))) (fun h => by rw [Bd.returns] at h; cases h)
  refine OGo.ret (retN X0 hx (t := .boolean) Bd.returns (by simp) (hb hby d22_6) hr) hrun hended ⟨_, _, rfl, ?_, ⟨_, rfl⟩, hW, hsame.mono (by decide) (by decide)⟩
  show Q_rmSame Z a0 h0 n0 _ s₁.heap _
  rw [e0]
  exact ⟨rfl, N0, rfl⟩
theorem own_lt {i n : Nat} (h : i < n) (hn : n ≤ 200) : (Int32.ofNat i) < (Int32.ofNat n) := by
  rw [Int32.lt_iff_toInt_lt, Int32.toInt_ofNat_small (by omega), Int32.toInt_ofNat_small (by omega)]; omega
theorem own_nlt {i n : Nat} (h : ¬ i < n) (hi : i ≤ 200) (hn : n ≤ 200) : ¬ (Int32.ofNat i) < (Int32.ofNat n) := by
  rw [Int32.lt_iff_toInt_lt, Int32.toInt_ofNat_small (by omega), Int32.toInt_ofNat_small (by omega)]; omega
theorem own_up1 (i : Nat) : (Int32.ofNat i + (1 : Int32)) = Int32.ofNat (i + 1) := by rw [Int32.ofNat_add]; rfl
theorem own_le200 {n : Nat} (hn : n ≤ 200) : ¬ (200 : Int32) < (Int32.ofNat n) := own_nlt (i := 200) (by omega) (by omega) hn
theorem own_get {cs : List Int32} {P : Int32 → Prop} (h : ∀ c ∈ cs, P c) {i : Nat} (hi : i < cs.length) : P (cs.getD i 0) := by
  have e : cs.getD i 0 = cs[i] := by simp [List.getD_eq_getElem?_getD, hi]
  rw [e]; exact h _ (List.getElem_mem hi)
theorem d9_0 : decode prog_9_method_2_code 0 = .ok (.aload_n 0, 1) := by decide +kernel
theorem d9_1 : decode prog_9_method_2_code 1 = .ok (.ldc 13, 2) := by decide +kernel
theorem d9_3 : decode prog_9_method_2_code 3 = .ok (.invokestatic 14, 3) := by decide +kernel
theorem own_pd1 : parseMethodDescriptor "(Ljava/lang/Object;Ljava/lang/String;)Ljava/lang/Object;" = some ⟨[(.object "java/lang/Object"), (.object "java/lang/String")], some (.object "java/lang/Object")⟩ := by decide +kernel
theorem d9_6 : decode prog_9_method_2_code 6 = .ok (.pop, 1) := by decide +kernel
theorem d9_7 : decode prog_9_method_2_code 7 = .ok (.aload_n 0, 1) := by decide +kernel
theorem d9_8 : decode prog_9_method_2_code 8 = .ok (.invokevirtual 20, 3) := by decide +kernel
theorem own_pd2 : parseMethodDescriptor "()Z" = some ⟨[], some .boolean⟩ := by decide +kernel
theorem d9_11 : decode prog_9_method_2_code 11 = .ok (.ifCond .ne 13, 3) := by decide +kernel
theorem d9_14 : decode prog_9_method_2_code 14 = .ok (.aload_n 0, 1) := by decide +kernel
theorem d9_15 : decode prog_9_method_2_code 15 = .ok (.invokevirtual 26, 3) := by decide +kernel
theorem own_pd3 : parseMethodDescriptor "()I" = some ⟨[], some .int⟩ := by decide +kernel
theorem d9_18 : decode prog_9_method_2_code 18 = .ok (.sipush 200, 3) := by decide +kernel
theorem d9_21 : decode prog_9_method_2_code 21 = .ok (.if_icmp .le 20, 3) := by decide +kernel
theorem d9_41 : decode prog_9_method_2_code 41 = .ok (.iconst 0, 1) := by decide +kernel
theorem d9_42 : decode prog_9_method_2_code 42 = .ok (.istore_n 1, 1) := by decide +kernel
theorem d9_43 : decode prog_9_method_2_code 43 = .ok (.iload_n 1, 1) := by decide +kernel
theorem d9_44 : decode prog_9_method_2_code 44 = .ok (.aload_n 0, 1) := by decide +kernel
theorem d9_45 : decode prog_9_method_2_code 45 = .ok (.invokevirtual 26, 3) := by decide +kernel
theorem d9_48 : decode prog_9_method_2_code 48 = .ok (.if_icmp .ge 42, 3) := by decide +kernel
theorem d9_90 : decode prog_9_method_2_code 90 = .ok (.new 8, 3) := by decide +kernel
theorem d9_93 : decode prog_9_method_2_code 93 = .ok (.dup, 1) := by decide +kernel
theorem d9_94 : decode prog_9_method_2_code 94 = .ok (.aload_n 0, 1) := by decide +kernel
theorem d9_95 : decode prog_9_method_2_code 95 = .ok (.invokespecial 57, 3) := by decide +kernel
theorem own_pd4 : parseMethodDescriptor "(Ljava/lang/String;)V" = some ⟨[(.object "java/lang/String")], none⟩ := by decide +kernel
theorem d9_98 : decode prog_9_method_2_code 98 = .ok (.areturn, 1) := by decide +kernel
theorem d9_51 : decode prog_9_method_2_code 51 = .ok (.aload_n 0, 1) := by decide +kernel
theorem d9_52 : decode prog_9_method_2_code 52 = .ok (.iload_n 1, 1) := by decide +kernel
theorem d9_53 : decode prog_9_method_2_code 53 = .ok (.invokevirtual 39, 3) := by decide +kernel
theorem own_pd5 : parseMethodDescriptor "(I)C" = some ⟨[.int], some .char⟩ := by decide +kernel
theorem d9_56 : decode prog_9_method_2_code 56 = .ok (.invokestatic 43, 3) := by decide +kernel
theorem own_pd6 : parseMethodDescriptor "(C)Z" = some ⟨[.char], some .boolean⟩ := by decide +kernel
theorem d9_59 : decode prog_9_method_2_code 59 = .ok (.ifCond .ne 25, 3) := by decide +kernel
theorem d9_84 : decode prog_9_method_2_code 84 = .ok (.iinc 1 1, 3) := by decide +kernel
theorem d9_87 : decode prog_9_method_2_code 87 = .ok (.goto (-44), 3) := by decide +kernel
theorem own_pn9 : plainName "com/example/trusty_lock/trustylock/LockName" = true := by first | (simp [plainName, overriddenIn]; done) | decide +kernel
theorem ef_rmOf (m : MethodId) (a0 : Addr) : entryFrame m #[(.ref a0)] 2 = mkF m 0 #[.val (.ref a0), .unset] [] := by first | (simp [entryFrame, mkF, argsToLocals, Value.category]; done) | rfl
def Q_rmOf (Z : State) (a0 : Addr) (t : Addr) (kb : ClassId) (cs : List Int32) (Nb : Int32) (cz : Int32) (fm : Value) (h0 : Heap) (n0 : Nat) (v : Option Value) (h : Heap) (L : List Loc) : Prop := ∃ b : Addr, v = some (.ref b) ∧ Fr n0 L ∧ Keep h0 h [] ∧ (h0.size ≤ b) ∧ (n0 ≤ b) ∧ (Exa Z h b "com/example/trusty_lock/trustylock/LockName") ∧ (Fld Z h b "com/example/trusty_lock/trustylock/LockName" "name" "Ljava/lang/String;" (.ref a0))
set_option maxRecDepth 65536 in
set_option maxHeartbeats 40000000 in
theorem rmOf (l : Launch) (Z : State) (av0 : Array Value) (hw : ∀ d ∈ tables_1, d.before av0 Z = true) (ws : List Jvm.Cond) (a0 : Addr) (t : Addr) (kb : ClassId) (cs : List Int32) (Nb : Int32) (cz : Int32) (fm : Value) (h0 : Heap) (n0 : Nat) (Z0 : n0 ≤ h0.size) (E0 : Exa Z h0 a0 "java/lang/String") (FV : Fld Z h0 a0 "java/lang/String" "value" "[B" (.ref t)) (FC : Fld Z h0 a0 "java/lang/String" "coder" "B" (.int (0 : Int32))) (FA : Arv Z h0 t kb .byte Nb ((cs.map (fun c => c.toInt8.toInt32)).map Value.int) (.int 0)) (hcd : StrChars.Road.CodA cs 0 Nb ((cs.map (fun c => c.toInt8.toInt32)).map Value.int)) (hbd : ∀ c ∈ cs, ¬ c < 0 ∧ ¬ (65535 : Int32) < c) (hl0 : 0 < cs.length) (hl : cs.length ≤ 200) (hal : ∀ c ∈ cs, own_isA c = (1 : Int32)) (O0 : Old Z n0 h0) (S1 : Sta Z Z.heap "java/lang/String" "COMPACT_STRINGS" "Z" (.int cz)) (hcz : ¬ cz = (0 : Int32)) (S2 : Sta Z Z.heap "jdk/internal/util/Preconditions" "SIOOBE_FORMATTER" "Ljava/util/function/BiFunction;" fm) (fm_isref : fm.isRef = true) :
    MetFree l (⟨"com/example/trusty_lock/trustylock/LockName", "of", "(Ljava/lang/String;)Lcom/example/trusty_lock/trustylock/LockName;"⟩ : MethodName) (head1 (Jvm.Cond.code (⟨"com/example/trusty_lock/trustylock/LockName", "of", "(Ljava/lang/String;)Lcom/example/trusty_lock/trustylock/LockName;"⟩ : MethodName) prog_9_method_2_code 2 (some (.object "com/example/trusty_lock/trustylock/LockName")) :: ws) ({ frames := 4, cells := 3, slots := 21, locals := 53 } : Room)) (fun a U => a = #[(.ref a0)] ∧ Z.Warmed39 U.vm ∧ U.heap = h0) (fun _ _ _ _ _ => True) (fun _ U o U' => ∃ v L, o = .returned v ∧ Q_rmOf Z a0 t kb cs Nb cz fm h0 n0 v U'.heap L ∧ ReturnedEndW U o U' L ({ frames := 4, cells := 3, slots := 21, locals := 53 } : Room).cells ({ frames := 4, cells := 3, slots := 21, locals := 53 } : Room).slots) := by
  refine MetFree.of_bodySF (plainFor_of_name own_pn9) hisR ?_
  intro p e s m args below meth c s₁ Bd hml0 hP hK
  obtain ⟨rfl, hZ, hh⟩ := hP
  have hx := Bd.exec
  have hby := Bd.bytes
  have hml : c.maxLocals = 2 := hml0
  have hown : s.vm.findClass "com/example/trusty_lock/trustylock/LockName" = some m.cls := findClass_of_methodNamed Bd.named
  have hnm := (name_of_methodNamed Bd.named Bd.method).1
  have X0 : Stand p l e ({ frames := 4, cells := 3, slots := 21, locals := 53 } : Room) s m #[(.ref a0)] below meth c s₁ [] 0 0 := Stand.of_body Bd
  have e0 : s₁.heap = h0 := by rw [← hh, Bd.state]; rfl
  have N0 := Fr.nil n0
  have hS0 : s.Since s.vm 0 := (State.WarmedH.refl s).since 0
  refine OGo.by (P := fun U' o => ∃ v L, o = .returned v ∧ Q_rmOf Z a0 t kb cs Nb cz fm h0 n0 v U'.heap L ∧ ReturnedEndW s o U' L ({ frames := 4, cells := 3, slots := 21, locals := 53 } : Room).cells ({ frames := 4, cells := 3, slots := 21, locals := 53 } : Room).slots) (fun t k => castTop (ef_rmOf m a0) k) ?_
  show OGo p e below _ (s₁.setTop (mkF m 0 #[.val (.ref a0), .unset] []))
  refine OGo.by (fun _ k => XS.aloadN X0.here hx rfl (hb hby d9_0) rfl rfl k) ?_
  show OGo p e below _ (s₁.setTop (mkF m 1 #[.val (.ref a0), .unset] [(.ref a0)]))
  obtain ⟨a1, T1, h1, k1, X1, e1, E1, hS1, hk1, hZ1, hown1, st1⟩ := ldcS (s := s) (vm0 := s.vm) X0 hx hZ hown (hw _ (List.mem_of_getElem? (i := 42) rfl)) (fun a ha => hw a ((by decide +kernel : ∀ a ∈ Bundle.stringAtoms, a ∈ tables_1) a ha)) e0 hS0 (Nat.zero_le _) (g := (mkF m 1 #[.val (.ref a0), .unset] [(.ref a0)])) rfl (hb hby d9_1) (n := 16) (by decide) (by decide) (by decide) (by decide)
  refine OGo.by st1 ?_
  have K1 : Keep h0 h1 [] := ((Keep.refl h0 [])).ext E1
  show OGo p e below _ (T1.setTop (mkF m 3 #[.val (.ref a0), .unset] [(.ref a1), (.ref a0)]))
  obtain ⟨_, _, ⟨T2, L2, k2, n2⟩, -, X2, ⟨Lc2, hQ2, l2, y2, z2⟩, st2⟩ := Jvm.LawKit.callS X1 hx (y := (⟨"java/util/Objects", "requireNonNull", "(Ljava/lang/Object;Ljava/lang/String;)Ljava/lang/Object;"⟩ : MethodName)) hown1 (mvT hZ1 (hw _ (List.mem_of_getElem? (i := 45) rfl))) (mvT hZ1 (hw _ (List.mem_of_getElem? (i := 46) rfl))) (mvT hZ1 (hw _ (List.mem_of_getElem? (i := 47) rfl))) (mvT hZ1 (hw _ (List.mem_of_getElem? (i := 48) rfl))) (by decide) (backOf (W := 0) (rm10 l Z av0 hw [] a0 a1 h1 n0 (Nat.le_trans Z0 K1.1)) hZ1 (hw _ (List.mem_of_getElem? (i := 48) rfl)) (hw _ (List.mem_of_getElem? (i := 47) rfl)) (by decide) (by decide)) (g := (mkF m 3 #[.val (.ref a0), .unset] [(.ref a1), (.ref a0)])) rfl (by rw [hml]; rfl) (argsL := [(.ref a0), (.ref a1)]) (rest := []) (lenOf own_pd1 rfl) rfl (by show 2 * 0 + _ ≤ _; exact Nat.le_of_eq rfl) (hb hby d9_3) (fun _ _ => ⟨rfl, e1, (by decide : 2 + 0 ≤ _), (by decide : 20 + 0 ≤ _)⟩)
  dsimp only [Pt.U, Pt.locs, Pt.cells, Pt.slots] at X2 l2 y2 z2 st2 hQ2
  subst l2 y2 z2
  obtain ⟨rfl, N2q, e2⟩ := hQ2
  have N2 := Fr.app N0 N2q
  refine OGo.by st2 ?_
  show OGo p e below _ (T2.setTop (mkF m 6 #[.val (.ref a0), .unset] [(.ref a0)]))
  refine OGo.by (fun _ k => XS.pop X2.here hx rfl (hb hby d9_6) rfl rfl k) ?_
  show OGo p e below _ (T2.setTop (mkF m 7 #[.val (.ref a0), .unset] []))
  refine OGo.by (fun _ k => XS.aloadN X2.here hx rfl (hb hby d9_7) rfl rfl k) ?_
  show OGo p e below _ (T2.setTop (mkF m 8 #[.val (.ref a0), .unset] [(.ref a0)]))
  have f4 : Exa Z h1 a0 "java/lang/String" := (E0.ext E1)
  have f5 : Fld Z h1 a0 "java/lang/String" "value" "[B" (.ref t) := (FV.ext E1)
  have f6 : Fld Z h1 a0 "java/lang/String" "coder" "B" (.int (0 : Int32)) := (FC.ext E1)
  have f7 : Arv Z h1 t kb .byte Nb ((cs.map (fun c => c.toInt8.toInt32)).map Value.int) (.int 0) := (FA.ext E1)
  have f8 : Old Z n0 h1 := (O0.ext E1)
  have hsw3 : ∀ d ∈ StrChars.Road.wordsEmp, d.before av0 Z = true := fun d hd => hw d ((by decide +kernel : ∀ d ∈ StrChars.Road.wordsEmp, d ∈ tables_1) d hd)
  obtain ⟨cq3, kq3, q3a, q3b, q3c⟩ := isOf hZ1 e2 f4
  obtain ⟨v3, _, ⟨T3, L3, k3, n3⟩, -, X3, ⟨Lc3, hQ3, l3, y3, z3⟩, st3⟩ := X2.virtualBack hx (y := (⟨"java/lang/String", "isEmpty", "()Z"⟩ : MethodName)) (z := (⟨"java/lang/String", "isEmpty", "()Z"⟩ : MethodName)) hown1 (mvT hZ1 (hw _ (List.mem_of_getElem? (i := 49) rfl))) (mvT hZ1 (hw _ (List.mem_of_getElem? (i := 50) rfl))) (notFace_of_selects (args := #[]) (mvT hZ1 (hw _ (List.mem_of_getElem? (i := 52) rfl)))) (mvT hZ1 (hw _ (List.mem_of_getElem? (i := 52) rfl))) (mvT hZ1 (hw _ (List.mem_of_getElem? (i := 51) rfl))) (by decide) (StrChars.Road.empW (W := 0) hZ1 hsw3 (kI := 4) (hw _ (List.mem_of_getElem? (i := 9) rfl)) f4 f5 f6 f7 hcd hbd (Nat.le_trans hl (by decide)) (by decide) (by decide)) q3a q3c (g := (mkF m 8 #[.val (.ref a0), .unset] [(.ref a0)])) rfl (by rw [hml]; rfl) (Steps.refl _) (argsL := []) (rest := []) (lenOf own_pd2 rfl) rfl (by show 2 * 0 + _ ≤ _; exact Nat.le_of_eq rfl) (hb hby d9_8) (fun _ _ => ⟨rfl, e2, (by decide : 2 + 0 ≤ _), (by decide : 20 + 0 ≤ _)⟩)
  dsimp only [Pt.U, Pt.locs, Pt.cells, Pt.slots] at X3 l3 y3 z3 st3 hQ3
  subst l3 y3 z3
  obtain ⟨rfl, rfl, e3⟩ := hQ3
  have N3 := Fr.app N2 (Fr.nil n0)
  refine OGo.of st3 ?_
  show OGo p e below _ (T3.setTop (mkF m 11 #[.val (.ref a0), .unset] [(.int (if cs.length = 0 then 1 else 0))]))
  refine OGo.by (fun _ k => XS.ifNo X3.here hx rfl (hb hby d9_11) rfl ((if0 _ _).trans (teq (by rw [if_neg (by omega)] : (if cs.length = 0 then 1 else 0) = (0 : Int32))).2) k) ?_
  show OGo p e below _ (T3.setTop (mkF m 14 #[.val (.ref a0), .unset] []))
  refine OGo.by (fun _ k => XS.aloadN X3.here hx rfl (hb hby d9_14) rfl rfl k) ?_
  show OGo p e below _ (T3.setTop (mkF m 15 #[.val (.ref a0), .unset] [(.ref a0)]))
  have hsw9 : ∀ d ∈ StrChars.Road.wordsLen, d.before av0 Z = true := fun d hd => hw d ((by decide +kernel : ∀ d ∈ StrChars.Road.wordsLen, d ∈ tables_1) d hd)
  obtain ⟨cq9, kq9, q9a, q9b, q9c⟩ := isOf hZ1 e3 f4
  obtain ⟨v9, _, ⟨T9, L9, k9, n9⟩, -, X9, ⟨Lc9, hQ9, l9, y9, z9⟩, st9⟩ := X3.virtualBack hx (y := (⟨"java/lang/String", "length", "()I"⟩ : MethodName)) (z := (⟨"java/lang/String", "length", "()I"⟩ : MethodName)) hown1 (mvT hZ1 (hw _ (List.mem_of_getElem? (i := 54) rfl))) (mvT hZ1 (hw _ (List.mem_of_getElem? (i := 55) rfl))) (notFace_of_selects (args := #[]) (mvT hZ1 (hw _ (List.mem_of_getElem? (i := 57) rfl)))) (mvT hZ1 (hw _ (List.mem_of_getElem? (i := 57) rfl))) (mvT hZ1 (hw _ (List.mem_of_getElem? (i := 56) rfl))) (by decide) (StrChars.Road.lenW (W := 0) hZ1 hsw9 (kI := 4) (hw _ (List.mem_of_getElem? (i := 9) rfl)) f4 f5 f6 f7 hcd hbd (S1.ext f8.2) hcz (Nat.le_trans hl (by decide)) (by decide) (by decide)) q9a q9c (g := (mkF m 15 #[.val (.ref a0), .unset] [(.ref a0)])) rfl (by rw [hml]; rfl) (Steps.refl _) (argsL := []) (rest := []) (lenOf own_pd3 rfl) rfl (by show 2 * 0 + _ ≤ _; exact Nat.le_of_eq rfl) (hb hby d9_15) (fun _ _ => ⟨rfl, e3, (by decide : 2 + 0 ≤ _), (by decide : 20 + 0 ≤ _)⟩)
  dsimp only [Pt.U, Pt.locs, Pt.cells, Pt.slots] at X9 l9 y9 z9 st9 hQ9
  subst l9 y9 z9
  obtain ⟨rfl, rfl, e9⟩ := hQ9
  have N9 := Fr.app N3 (Fr.nil n0)
  refine OGo.of st9 ?_
  show OGo p e below _ (T9.setTop (mkF m 18 #[.val (.ref a0), .unset] [(.int (Int32.ofNat cs.length))]))
  refine OGo.by (fun _ k => XS.sipush X9.here hx rfl (hb hby d9_18) k) ?_
  show OGo p e below _ (T9.setTop (mkF m 21 #[.val (.ref a0), .unset] [(.int (200 : Int32)), (.int (Int32.ofNat cs.length))]))
  refine OGo.by (fun _ k => XS.icmpYes X9.here hx rfl (pc0 := 21) (pc' := 41) rfl (hb hby d9_21) rfl (flt (own_le200 hl)).2.2.2 (by decide) (by decide) k) ?_
  show OGo p e below _ (T9.setTop (mkF m 41 #[.val (.ref a0), .unset] []))
  refine OGo.by (fun _ k => XS.iconst X9.here hx rfl (hb hby d9_41) k) ?_
  show OGo p e below _ (T9.setTop (mkF m 42 #[.val (.ref a0), .unset] [(.int (0 : Int32))]))
  refine OGo.by (fun _ k => XS.istoreN X9.here hx rfl (hb hby d9_42) rfl (l' := #[.val (.ref a0), .val (.int (0 : Int32))]) rfl k) ?_
  show OGo p e below _ (T9.setTop (mkF m 43 #[.val (.ref a0), .val (.int (0 : Int32))] []))
  have loop : ∀ (k i : Nat), i + k = cs.length → ∀ (T : State) (locs : List Loc) (X : Stand p l e ({ frames := 4, cells := 3, slots := 21, locals := 53 } : Room) (s.setVm T1.vm) m #[(.ref a0)] below meth c T locs 2 20) (eT : T.heap = h1) (N : Fr n0 locs), OGo p e below (fun U' o => ∃ v L, o = .returned v ∧ Q_rmOf Z a0 t kb cs Nb cz fm h0 n0 v U'.heap L ∧ ReturnedEndW s o U' L (({ frames := 4, cells := 3, slots := 21, locals := 53 } : Room)).cells (({ frames := 4, cells := 3, slots := 21, locals := 53 } : Room)).slots) (T.setTop (mkF m 43 #[.val (.ref a0), .val (.int (Int32.ofNat i))] [])) := by
    intro k
    induction k with
    | zero =>
      intro i hi T locs X eT N
      show OGo p e below _ (T.setTop (mkF m 43 #[.val (.ref a0), .val (.int (Int32.ofNat i))] []))
      refine OGo.by (fun _ k => XS.iloadN X.here hx rfl (hb hby d9_43) rfl k) ?_
      show OGo p e below _ (T.setTop (mkF m 44 #[.val (.ref a0), .val (.int (Int32.ofNat i))] [(.int (Int32.ofNat i))]))
      refine OGo.by (fun _ k => XS.aloadN X.here hx rfl (hb hby d9_44) rfl rfl k) ?_
      show OGo p e below _ (T.setTop (mkF m 45 #[.val (.ref a0), .val (.int (Int32.ofNat i))] [(.ref a0), (.int (Int32.ofNat i))]))
      have hsw10 : ∀ d ∈ StrChars.Road.wordsLen, d.before av0 Z = true := fun d hd => hw d ((by decide +kernel : ∀ d ∈ StrChars.Road.wordsLen, d ∈ tables_1) d hd)
      obtain ⟨cq10, kq10, q10a, q10b, q10c⟩ := isOf hZ1 eT f4
      obtain ⟨v10, _, ⟨T10, L10, k10, n10⟩, -, X10, ⟨Lc10, hQ10, l10, y10, z10⟩, st10⟩ := X.virtualBack hx (y := (⟨"java/lang/String", "length", "()I"⟩ : MethodName)) (z := (⟨"java/lang/String", "length", "()I"⟩ : MethodName)) hown1 (mvT hZ1 (hw _ (List.mem_of_getElem? (i := 54) rfl))) (mvT hZ1 (hw _ (List.mem_of_getElem? (i := 55) rfl))) (notFace_of_selects (args := #[]) (mvT hZ1 (hw _ (List.mem_of_getElem? (i := 57) rfl)))) (mvT hZ1 (hw _ (List.mem_of_getElem? (i := 57) rfl))) (mvT hZ1 (hw _ (List.mem_of_getElem? (i := 56) rfl))) (by decide) (StrChars.Road.lenW (W := 1) hZ1 hsw10 (kI := 4) (hw _ (List.mem_of_getElem? (i := 9) rfl)) f4 f5 f6 f7 hcd hbd (S1.ext f8.2) hcz (Nat.le_trans hl (by decide)) (by decide) (by decide)) q10a q10c (g := (mkF m 45 #[.val (.ref a0), .val (.int (Int32.ofNat i))] [(.ref a0), (.int (Int32.ofNat i))])) rfl (by rw [hml]; rfl) (Steps.refl _) (argsL := []) (rest := [(.int (Int32.ofNat i))]) (lenOf own_pd3 rfl) rfl (by show 2 * 0 + _ ≤ _; exact Nat.le_of_eq rfl) (hb hby d9_45) (fun _ _ => ⟨rfl, eT, (by decide : 2 + 0 ≤ _), (by decide : 20 + 0 ≤ _)⟩)
      dsimp only [Pt.U, Pt.locs, Pt.cells, Pt.slots] at X10 l10 y10 z10 st10 hQ10
      subst l10 y10 z10
      obtain ⟨rfl, rfl, e10⟩ := hQ10
      have N10 := Fr.app N (Fr.nil n0)
      refine OGo.of st10 ?_
      show OGo p e below _ (T10.setTop (mkF m 48 #[.val (.ref a0), .val (.int (Int32.ofNat i))] [(.int (Int32.ofNat cs.length)), (.int (Int32.ofNat i))]))
      refine OGo.by (fun _ k => XS.icmpYes X10.here hx rfl (pc0 := 48) (pc' := 90) rfl (hb hby d9_48) rfl (flt (own_nlt (by omega) (by omega) hl)).2.1 (by decide) (by decide) k) ?_
      show OGo p e below _ (T10.setTop (mkF m 90 #[.val (.ref a0), .val (.int (Int32.ofNat i))] []))
      obtain ⟨T11, h11, X11, e11, E11, A11, D11, U11, st11⟩ := newO X10 hx hZ1 hown1 (hw _ (List.mem_of_getElem? (i := 89) rfl)) (hw _ (List.mem_of_getElem? (i := 90) rfl)) (hw _ (List.mem_of_getElem? (i := 40) rfl)) e10 (g := (mkF m 90 #[.val (.ref a0), .val (.int (Int32.ofNat i))] [])) rfl (hb hby d9_90) (by decide) (by decide)
      obtain ⟨b11, g11⟩ : ∃ z, z = h1.size := ⟨_, rfl⟩
      rw [← g11] at A11 D11 U11 st11
      have ne_a0_b11 : a0 ≠ b11 := Nat.ne_of_lt (Nat.lt_of_lt_of_le f4.lt (Nat.le_of_eq g11.symm))
      have ne_t_b11 : t ≠ b11 := Nat.ne_of_lt (Nat.lt_of_lt_of_le f7.lt (Nat.le_of_eq g11.symm))
      have g_b11 : n0 ≤ b11 := Nat.le_trans (Nat.le_trans Z0 K1.1) (Nat.le_of_eq g11.symm)
      have sz_b11 : h0.size ≤ b11 := Nat.le_trans K1.1 (Nat.le_of_eq g11.symm)
      refine OGo.by st11 ?_
      have K11 : Keep h0 h11 [] := (K1).ext E11
      have F11_name : Fld Z h11 b11 "com/example/trusty_lock/trustylock/LockName" "name" "Ljava/lang/String;" .null := D11 (Or.inr (hw _ (List.mem_of_getElem? (i := 96) rfl))) (ty := (.object "java/lang/String")) (by decide)
      show OGo p e below _ (T11.setTop (mkF m 93 #[.val (.ref a0), .val (.int (Int32.ofNat i))] [(.ref b11)]))
      refine OGo.by (fun _ k => XS.dup X11.here hx rfl (hb hby d9_93) rfl rfl k) ?_
      show OGo p e below _ (T11.setTop (mkF m 94 #[.val (.ref a0), .val (.int (Int32.ofNat i))] [(.ref b11), (.ref b11)]))
      refine OGo.by (fun _ k => XS.aloadN X11.here hx rfl (hb hby d9_94) rfl rfl k) ?_
      show OGo p e below _ (T11.setTop (mkF m 95 #[.val (.ref a0), .val (.int (Int32.ofNat i))] [(.ref a0), (.ref b11), (.ref b11)]))
      obtain ⟨_, _, ⟨T12, L12, k12, n12⟩, -, X12, ⟨Lc12, hQ12, l12, y12, z12⟩, st12⟩ := X11.specialBack hx (y := (⟨"com/example/trusty_lock/trustylock/LockName", "<init>", "(Ljava/lang/String;)V"⟩ : MethodName)) rfl hown1 (mvT hZ1 (hw _ (List.mem_of_getElem? (i := 91) rfl))) (mvT hZ1 (hw _ (List.mem_of_getElem? (i := 92) rfl))) (mvT hZ1 (hw _ (List.mem_of_getElem? (i := 93) rfl))) (by decide) (backOf (W := 1) (rm20 l Z av0 hw [] b11 a0 h11 n0 (Nat.le_trans Z0 K11.1) A11 F11_name g_b11) hZ1 (hw _ (List.mem_of_getElem? (i := 93) rfl)) (hw _ (List.mem_of_getElem? (i := 40) rfl)) (by decide) (by decide)) (g := (mkF m 95 #[.val (.ref a0), .val (.int (Int32.ofNat i))] [(.ref a0), (.ref b11), (.ref b11)])) rfl (by rw [hml]; rfl) (Steps.refl _) (a := b11) (argsL := [(.ref a0)]) (rest := [(.ref b11)]) (lenOf own_pd4 rfl) rfl (by show 2 * 0 + _ ≤ _; exact Nat.le_of_eq rfl) (hb hby d9_95) (fun _ _ => ⟨rfl, e11, (by decide : 3 + 0 ≤ _), (by decide : 21 + 0 ≤ _)⟩)
      dsimp only [Pt.U, Pt.locs, Pt.cells, Pt.slots] at X12 l12 y12 z12 st12 hQ12
      subst l12 y12 z12
      obtain ⟨rfl, N12q, Kc12, G12_0, G12_1⟩ := hQ12
      have N12 := Fr.app N10 N12q
      have K12 : Keep h0 T12.heap [] := (K11).trans Kc12 (fun x hx => by simp only [List.mem_cons, List.not_mem_nil, or_false] at hx; subst hx; exact Or.inr sz_b11)
      refine OGo.of st12 ?_
      show OGo p e below _ (T12.setTop (mkF m 98 #[.val (.ref a0), .val (.int (Int32.ofNat i))] [(.ref b11)]))
      have f13 : k1 ≤ T12.heap.size := (Nat.le_trans (Nat.le_trans hk1 E11.1) Kc12.1)
      obtain ⟨fs, hr, hrun, hended, hRE⟩ := Stand.leaveW (s := s) (vm₁ := T1.vm) X12 hS1 (by exact f13) (v := some (.ref b11)) (fun h => by rw [Bd.returns] at h; cases h)
      refine OGo.ret (retOut X12 hx Bd.returns rfl (Or.inr (Or.inr (Or.inr (Or.inr ⟨rfl, rfl, rfl⟩)))) (hb hby d9_98) hr) hrun hended ⟨_, _, rfl, ?_, hRE.1, hRE.2.1, hRE.2.2.1, hRE.2.2.2.mono (by decide) (by decide)⟩
      show Q_rmOf Z a0 t kb cs Nb cz fm h0 n0 _ T12.heap _
      exact ⟨b11, rfl, N12, K12, sz_b11, g_b11, G12_0, G12_1⟩
    | succ k ih =>
      intro i hi T locs X eT N
      show OGo p e below _ (T.setTop (mkF m 43 #[.val (.ref a0), .val (.int (Int32.ofNat i))] []))
      refine OGo.by (fun _ k => XS.iloadN X.here hx rfl (hb hby d9_43) rfl k) ?_
      show OGo p e below _ (T.setTop (mkF m 44 #[.val (.ref a0), .val (.int (Int32.ofNat i))] [(.int (Int32.ofNat i))]))
      refine OGo.by (fun _ k => XS.aloadN X.here hx rfl (hb hby d9_44) rfl rfl k) ?_
      show OGo p e below _ (T.setTop (mkF m 45 #[.val (.ref a0), .val (.int (Int32.ofNat i))] [(.ref a0), (.int (Int32.ofNat i))]))
      have hsw14 : ∀ d ∈ StrChars.Road.wordsLen, d.before av0 Z = true := fun d hd => hw d ((by decide +kernel : ∀ d ∈ StrChars.Road.wordsLen, d ∈ tables_1) d hd)
      obtain ⟨cq14, kq14, q14a, q14b, q14c⟩ := isOf hZ1 eT f4
      obtain ⟨v14, _, ⟨T14, L14, k14, n14⟩, -, X14, ⟨Lc14, hQ14, l14, y14, z14⟩, st14⟩ := X.virtualBack hx (y := (⟨"java/lang/String", "length", "()I"⟩ : MethodName)) (z := (⟨"java/lang/String", "length", "()I"⟩ : MethodName)) hown1 (mvT hZ1 (hw _ (List.mem_of_getElem? (i := 54) rfl))) (mvT hZ1 (hw _ (List.mem_of_getElem? (i := 55) rfl))) (notFace_of_selects (args := #[]) (mvT hZ1 (hw _ (List.mem_of_getElem? (i := 57) rfl)))) (mvT hZ1 (hw _ (List.mem_of_getElem? (i := 57) rfl))) (mvT hZ1 (hw _ (List.mem_of_getElem? (i := 56) rfl))) (by decide) (StrChars.Road.lenW (W := 1) hZ1 hsw14 (kI := 4) (hw _ (List.mem_of_getElem? (i := 9) rfl)) f4 f5 f6 f7 hcd hbd (S1.ext f8.2) hcz (Nat.le_trans hl (by decide)) (by decide) (by decide)) q14a q14c (g := (mkF m 45 #[.val (.ref a0), .val (.int (Int32.ofNat i))] [(.ref a0), (.int (Int32.ofNat i))])) rfl (by rw [hml]; rfl) (Steps.refl _) (argsL := []) (rest := [(.int (Int32.ofNat i))]) (lenOf own_pd3 rfl) rfl (by show 2 * 0 + _ ≤ _; exact Nat.le_of_eq rfl) (hb hby d9_45) (fun _ _ => ⟨rfl, eT, (by decide : 2 + 0 ≤ _), (by decide : 20 + 0 ≤ _)⟩)
      dsimp only [Pt.U, Pt.locs, Pt.cells, Pt.slots] at X14 l14 y14 z14 st14 hQ14
      subst l14 y14 z14
      obtain ⟨rfl, rfl, e14⟩ := hQ14
      have N14 := Fr.app N (Fr.nil n0)
      refine OGo.of st14 ?_
      show OGo p e below _ (T14.setTop (mkF m 48 #[.val (.ref a0), .val (.int (Int32.ofNat i))] [(.int (Int32.ofNat cs.length)), (.int (Int32.ofNat i))]))
      refine OGo.by (fun _ k => XS.icmpNo X14.here hx rfl (hb hby d9_48) rfl (tlt (own_lt (by omega) hl)).2.1 k) ?_
      show OGo p e below _ (T14.setTop (mkF m 51 #[.val (.ref a0), .val (.int (Int32.ofNat i))] []))
      refine OGo.by (fun _ k => XS.aloadN X14.here hx rfl (hb hby d9_51) rfl rfl k) ?_
      show OGo p e below _ (T14.setTop (mkF m 52 #[.val (.ref a0), .val (.int (Int32.ofNat i))] [(.ref a0)]))
      refine OGo.by (fun _ k => XS.iloadN X14.here hx rfl (hb hby d9_52) rfl k) ?_
      show OGo p e below _ (T14.setTop (mkF m 53 #[.val (.ref a0), .val (.int (Int32.ofNat i))] [(.int (Int32.ofNat i)), (.ref a0)]))
      have hsw15 : ∀ d ∈ StrChars.Road.wordsChN, d.before av0 Z = true := fun d hd => hw d ((by decide +kernel : ∀ d ∈ StrChars.Road.wordsChN, d ∈ tables_1) d hd)
      obtain ⟨cq15, kq15, q15a, q15b, q15c⟩ := isOf hZ1 e14 f4
      obtain ⟨v15, _, ⟨T15, L15, k15, n15⟩, -, X15, ⟨Lc15, hQ15, l15, y15, z15⟩, st15⟩ := X14.virtualBack hx (y := (⟨"java/lang/String", "charAt", "(I)C"⟩ : MethodName)) (z := (⟨"java/lang/String", "charAt", "(I)C"⟩ : MethodName)) hown1 (mvT hZ1 (hw _ (List.mem_of_getElem? (i := 64) rfl))) (mvT hZ1 (hw _ (List.mem_of_getElem? (i := 65) rfl))) (notFace_of_selects (args := #[]) (mvT hZ1 (hw _ (List.mem_of_getElem? (i := 67) rfl)))) (mvT hZ1 (hw _ (List.mem_of_getElem? (i := 67) rfl))) (mvT hZ1 (hw _ (List.mem_of_getElem? (i := 66) rfl))) (by decide) (StrChars.Road.chN (W := 0) hZ1 hsw15 (kI := 4) (hw _ (List.mem_of_getElem? (i := 9) rfl)) f4 f5 f6 f7 hcd hbd (S1.ext f8.2) hcz (S2.ext f8.2) fm_isref (Nat.le_trans hl (by decide)) (i := i) (by omega) (j := (Int32.ofNat i)) rfl (by decide) (by decide)) q15a q15c (g := (mkF m 53 #[.val (.ref a0), .val (.int (Int32.ofNat i))] [(.int (Int32.ofNat i)), (.ref a0)])) rfl (by rw [hml]; rfl) (Steps.refl _) (argsL := [(.int (Int32.ofNat i))]) (rest := []) (lenOf own_pd5 rfl) rfl (by show 2 * 0 + _ ≤ _; exact Nat.le_of_eq rfl) (hb hby d9_53) (fun _ _ => ⟨rfl, e14, (by decide : 2 + 0 ≤ _), (by decide : 20 + 0 ≤ _)⟩)
      dsimp only [Pt.U, Pt.locs, Pt.cells, Pt.slots] at X15 l15 y15 z15 st15 hQ15
      subst l15 y15 z15
      obtain ⟨rfl, rfl, e15⟩ := hQ15
      have N15 := Fr.app N14 (Fr.nil n0)
      refine OGo.of st15 ?_
      show OGo p e below _ (T15.setTop (mkF m 56 #[.val (.ref a0), .val (.int (Int32.ofNat i))] [(.int (cs.getD i 0))]))
      obtain ⟨_, _, ⟨T16, L16, k16, n16⟩, -, X16, ⟨Lc16, hQ16, l16, y16, z16⟩, st16⟩ := Jvm.LawKit.callS X15 hx (y := (⟨"com/example/trusty_lock/trustylock/LockName", "isAllowed", "(C)Z"⟩ : MethodName)) hown1 (mvT hZ1 (hw _ (List.mem_of_getElem? (i := 86) rfl))) (mvT hZ1 (hw _ (List.mem_of_getElem? (i := 87) rfl))) (mvT hZ1 (hw _ (List.mem_of_getElem? (i := 40) rfl))) (mvT hZ1 (hw _ (List.mem_of_getElem? (i := 88) rfl))) (by decide) (backOf (W := 0) (rm19 l Z av0 hw [] (cs.getD i 0) h1 n0 (Nat.le_trans Z0 K1.1)) hZ1 (hw _ (List.mem_of_getElem? (i := 88) rfl)) (hw _ (List.mem_of_getElem? (i := 40) rfl)) (by decide) (by decide)) (g := (mkF m 56 #[.val (.ref a0), .val (.int (Int32.ofNat i))] [(.int (cs.getD i 0))])) rfl (by rw [hml]; rfl) (argsL := [(.int (cs.getD i 0))]) (rest := []) (lenOf own_pd6 rfl) rfl (by show 2 * 0 + _ ≤ _; exact Nat.le_of_eq rfl) (hb hby d9_56) (fun _ _ => ⟨rfl, e15, (by decide : 2 + 0 ≤ _), (by decide : 20 + 0 ≤ _)⟩)
      dsimp only [Pt.U, Pt.locs, Pt.cells, Pt.slots] at X16 l16 y16 z16 st16 hQ16
      subst l16 y16 z16
      obtain ⟨rfl, N16q, e16⟩ := hQ16
      have N16 := Fr.app N15 N16q
      refine OGo.by st16 ?_
      show OGo p e below _ (T16.setTop (mkF m 59 #[.val (.ref a0), .val (.int (Int32.ofNat i))] [(.int (own_isA (cs.getD i 0)))]))
      refine OGo.by (fun _ k => XS.ifYes X16.here hx rfl (pc0 := 59) (pc' := 84) rfl (hb hby d9_59) rfl ((if0 _ _).trans (feq (by rw [own_get hal (by omega : i < cs.length)]; decide)).2) (by decide) (by decide) k) ?_
      show OGo p e below _ (T16.setTop (mkF m 84 #[.val (.ref a0), .val (.int (Int32.ofNat i))] []))
      refine OGo.by (fun _ k => XS.iinc X16.here hx rfl (hb hby d9_84) rfl (l' := #[.val (.ref a0), .val (.int ((Int32.ofNat i) + (1 : Int32)))]) rfl k) ?_
      show OGo p e below _ (T16.setTop (mkF m 87 #[.val (.ref a0), .val (.int ((Int32.ofNat i) + (1 : Int32)))] []))
      refine OGo.by (fun _ k => XS.goto X16.here hx rfl (pc0 := 87) (pc' := 43) rfl (hb hby d9_87) (by decide) (by decide) k) ?_
      show OGo p e below _ (T16.setTop (mkF m 43 #[.val (.ref a0), .val (.int ((Int32.ofNat i) + (1 : Int32)))] []))
      rw [own_up1 i]
      exact ih (i + 1) (by omega) _ _ X16 e16 N16
  exact loop cs.length 0 (by omega) _ _ X9 e9 N9
theorem own_pd7 : parseMethodDescriptor "(ICCCC)Ljava/lang/String;" = some ⟨[.int, .char, .char, .char, .char], some (.object "java/lang/String")⟩ := by decide +kernel
theorem own_pd8 : parseMethodDescriptor "(Ljava/lang/String;)Lcom/example/trusty_lock/trustylock/LockName;" = some ⟨[(.object "java/lang/String")], some (.object "com/example/trusty_lock/trustylock/LockName")⟩ := by decide +kernel
theorem own_pd9 : parseMethodDescriptor "()Ljava/lang/String;" = some ⟨[], some (.object "java/lang/String")⟩ := by decide +kernel
theorem own_pd10 : parseMethodDescriptor "(Ljava/lang/Object;)Z" = some ⟨[(.object "java/lang/Object")], some .boolean⟩ := by decide +kernel
theorem own_pn0 : plainName "com/example/trusty_lock/trustylock/LockNameOfPinLaw" = true := by first | (simp [plainName, overriddenIn]; done) | decide +kernel
theorem ef_rm0 (m : MethodId) (i0 : Int32) (i1 : Int32) (i2 : Int32) (i3 : Int32) (i4 : Int32) : entryFrame m #[(.int i0), (.int i1), (.int i2), (.int i3), (.int i4)] maxLocals = mkF m 0 #[.val (.int i0), .val (.int i1), .val (.int i2), .val (.int i3), .val (.int i4), .unset, .unset, .unset, .unset, .unset, .unset, .unset, .unset] [] := by first | (simp [entryFrame, mkF, argsToLocals, Value.category, maxLocals]; done) | rfl
def Q_rm0 (Z : State) (i0 : Int32) (i1 : Int32) (i2 : Int32) (i3 : Int32) (i4 : Int32) (cz : Int32) (fm : Value) (h0 : Heap) (n0 : Nat) (v : Option Value) (h : Heap) (L : List Loc) : Prop := v = some (.int 1) ∧ Fr n0 L
set_option maxRecDepth 65536 in
set_option maxHeartbeats 40000000 in
theorem rm0 (l : Launch) (Z : State) (av0 : Array Value) (hw : ∀ d ∈ tables_1, d.before av0 Z = true) (ws : List Jvm.Cond) (i0 : Int32) (i1 : Int32) (i2 : Int32) (i3 : Int32) (i4 : Int32) (cz : Int32) (fm : Value) (h0 : Heap) (n0 : Nat) (Z0 : n0 ≤ h0.size) (O0 : Old Z n0 h0) (S1 : Sta Z Z.heap "java/lang/String" "COMPACT_STRINGS" "Z" (.int cz)) (hcz : ¬ cz = (0 : Int32)) (S2 : Sta Z Z.heap "jdk/internal/util/Preconditions" "SIOOBE_FORMATTER" "Ljava/util/function/BiFunction;" fm) (fm_isref : fm.isRef = true) :
    MetFree l x (head1 (Jvm.Cond.code x code maxLocals ret :: ws) room_1) (fun a U => a = #[(.int i0), (.int i1), (.int i2), (.int i3), (.int i4)] ∧ Z.Warmed39 U.vm ∧ U.heap = h0) (fun _ _ _ _ _ => True) (fun _ U o U' => ∃ v L, o = .returned v ∧ Q_rm0 Z i0 i1 i2 i3 i4 cz fm h0 n0 v U'.heap L ∧ ReturnedEndW U o U' L room_1.cells room_1.slots) := by
  refine MetFree.of_bodySF (plainFor_of_name own_pn0) hisR ?_
  intro p e s m args below meth c s₁ Bd hml0 hP hK
  obtain ⟨rfl, hZ, hh⟩ := hP
  have hx := Bd.exec
  have hby := Bd.bytes
  have hml : c.maxLocals = 13 := hml0
  have hown : s.vm.findClass "com/example/trusty_lock/trustylock/LockNameOfPinLaw" = some m.cls := findClass_of_methodNamed Bd.named
  have hnm := (name_of_methodNamed Bd.named Bd.method).1
  have X0 : Stand p l e room_1 s m #[(.int i0), (.int i1), (.int i2), (.int i3), (.int i4)] below meth c s₁ [] 0 0 := Stand.of_body Bd
  have e0 : s₁.heap = h0 := by rw [← hh, Bd.state]; rfl
  have N0 := Fr.nil n0
  have hS0 : s.Since s.vm 0 := (State.WarmedH.refl s).since 0
  refine OGo.by (P := fun U' o => ∃ v L, o = .returned v ∧ Q_rm0 Z i0 i1 i2 i3 i4 cz fm h0 n0 v U'.heap L ∧ ReturnedEndW s o U' L room_1.cells room_1.slots) (fun t k => castTop (ef_rm0 m i0 i1 i2 i3 i4) k) ?_
  show OGo p e below _ (s₁.setTop (mkF m 0 #[.val (.int i0), .val (.int i1), .val (.int i2), .val (.int i3), .val (.int i4), .unset, .unset, .unset, .unset, .unset, .unset, .unset, .unset] []))
  refine OGo.by (fun _ k => XS.iconst X0.here hx rfl (hb hby at_0) k) ?_
  show OGo p e below _ (s₁.setTop (mkF m 1 #[.val (.int i0), .val (.int i1), .val (.int i2), .val (.int i3), .val (.int i4), .unset, .unset, .unset, .unset, .unset, .unset, .unset, .unset] [(.int (1 : Int32))]))
  refine OGo.by (fun _ k => XS.iloadN X0.here hx rfl (hb hby at_1) rfl k) ?_
  show OGo p e below _ (s₁.setTop (mkF m 2 #[.val (.int i0), .val (.int i1), .val (.int i2), .val (.int i3), .val (.int i4), .unset, .unset, .unset, .unset, .unset, .unset, .unset, .unset] [(.int i0), (.int (1 : Int32))]))
  refine OGo.by (fun _ k => XS.iconst X0.here hx rfl (hb hby at_2) k) ?_
  show OGo p e below _ (s₁.setTop (mkF m 3 #[.val (.int i0), .val (.int i1), .val (.int i2), .val (.int i3), .val (.int i4), .unset, .unset, .unset, .unset, .unset, .unset, .unset, .unset] [(.int (3 : Int32)), (.int i0), (.int (1 : Int32))]))
  refine OGo.by (fun _ k => XS.iand X0.here hx rfl (hb hby at_3) rfl k) ?_
  show OGo p e below _ (s₁.setTop (mkF m 4 #[.val (.int i0), .val (.int i1), .val (.int i2), .val (.int i3), .val (.int i4), .unset, .unset, .unset, .unset, .unset, .unset, .unset, .unset] [(.int (i0 &&& (3 : Int32))), (.int (1 : Int32))]))
  refine OGo.by (fun _ k => XS.iadd X0.here hx rfl (hb hby at_4) rfl k) ?_
  show OGo p e below _ (s₁.setTop (mkF m 5 #[.val (.int i0), .val (.int i1), .val (.int i2), .val (.int i3), .val (.int i4), .unset, .unset, .unset, .unset, .unset, .unset, .unset, .unset] [(.int ((1 : Int32) + (i0 &&& (3 : Int32))))]))
  refine OGo.by (fun _ k => XS.istore X0.here hx rfl (hb hby at_5) rfl (l' := #[.val (.int i0), .val (.int i1), .val (.int i2), .val (.int i3), .val (.int i4), .val (.int ((1 : Int32) + (i0 &&& (3 : Int32)))), .unset, .unset, .unset, .unset, .unset, .unset, .unset]) rfl k) ?_
  show OGo p e below _ (s₁.setTop (mkF m 7 #[.val (.int i0), .val (.int i1), .val (.int i2), .val (.int i3), .val (.int i4), .val (.int ((1 : Int32) + (i0 &&& (3 : Int32)))), .unset, .unset, .unset, .unset, .unset, .unset, .unset] []))
  refine OGo.by (fun _ k => XS.iloadN X0.here hx rfl (hb hby at_7) rfl k) ?_
  show OGo p e below _ (s₁.setTop (mkF m 8 #[.val (.int i0), .val (.int i1), .val (.int i2), .val (.int i3), .val (.int i4), .val (.int ((1 : Int32) + (i0 &&& (3 : Int32)))), .unset, .unset, .unset, .unset, .unset, .unset, .unset] [(.int i1)]))
  obtain ⟨_, _, ⟨T1, L1, k1, n1⟩, -, X1, ⟨Lc1, hQ1, l1, y1, z1⟩, st1⟩ := Jvm.LawKit.callS X0 hx (y := (⟨"com/example/trusty_lock/trustylock/LockNameOfPinLaw", "allowed", "(I)C"⟩ : MethodName)) hown (mvT hZ (hw _ (List.mem_of_getElem? (i := 0) rfl))) (mvT hZ (hw _ (List.mem_of_getElem? (i := 1) rfl))) (mvT hZ (hw _ (List.mem_of_getElem? (i := 2) rfl))) (mvT hZ (hw _ (List.mem_of_getElem? (i := 3) rfl))) (by decide) (backOf (W := 0) (rm1 l Z av0 hw [] i1 h0 n0 Z0) hZ (hw _ (List.mem_of_getElem? (i := 3) rfl)) (hw _ (List.mem_of_getElem? (i := 2) rfl)) (by decide) (by decide)) (g := (mkF m 8 #[.val (.int i0), .val (.int i1), .val (.int i2), .val (.int i3), .val (.int i4), .val (.int ((1 : Int32) + (i0 &&& (3 : Int32)))), .unset, .unset, .unset, .unset, .unset, .unset, .unset] [(.int i1)])) rfl (by rw [hml]; rfl) (argsL := [(.int i1)]) (rest := []) (lenOf own_pd5 rfl) rfl (by show 2 * 0 + _ ≤ _; exact Nat.le_of_eq rfl) (hb hby at_8) (fun _ _ => ⟨rfl, e0, (by decide : 0 + 0 ≤ _), (by decide : 0 + 0 ≤ _)⟩)
  dsimp only [Pt.U, Pt.locs, Pt.cells, Pt.slots] at X1 l1 y1 z1 st1 hQ1
  subst l1 y1 z1
  obtain ⟨rfl, N1q, e1⟩ := hQ1
  have N1 := Fr.app N0 N1q
  refine OGo.by st1 ?_
  show OGo p e below _ (T1.setTop (mkF m 11 #[.val (.int i0), .val (.int i1), .val (.int i2), .val (.int i3), .val (.int i4), .val (.int ((1 : Int32) + (i0 &&& (3 : Int32)))), .unset, .unset, .unset, .unset, .unset, .unset, .unset] [(.int (own_al i1))]))
  refine OGo.by (fun _ k => XS.istore X1.here hx rfl (hb hby at_11) rfl (l' := #[.val (.int i0), .val (.int i1), .val (.int i2), .val (.int i3), .val (.int i4), .val (.int ((1 : Int32) + (i0 &&& (3 : Int32)))), .val (.int (own_al i1)), .unset, .unset, .unset, .unset, .unset, .unset]) rfl k) ?_
  show OGo p e below _ (T1.setTop (mkF m 13 #[.val (.int i0), .val (.int i1), .val (.int i2), .val (.int i3), .val (.int i4), .val (.int ((1 : Int32) + (i0 &&& (3 : Int32)))), .val (.int (own_al i1)), .unset, .unset, .unset, .unset, .unset, .unset] []))
  refine OGo.by (fun _ k => XS.iloadN X1.here hx rfl (hb hby at_13) rfl k) ?_
  show OGo p e below _ (T1.setTop (mkF m 14 #[.val (.int i0), .val (.int i1), .val (.int i2), .val (.int i3), .val (.int i4), .val (.int ((1 : Int32) + (i0 &&& (3 : Int32)))), .val (.int (own_al i1)), .unset, .unset, .unset, .unset, .unset, .unset] [(.int i2)]))
  obtain ⟨_, _, ⟨T2, L2, k2, n2⟩, -, X2, ⟨Lc2, hQ2, l2, y2, z2⟩, st2⟩ := Jvm.LawKit.callS X1 hx (y := (⟨"com/example/trusty_lock/trustylock/LockNameOfPinLaw", "allowed", "(I)C"⟩ : MethodName)) hown (mvT hZ (hw _ (List.mem_of_getElem? (i := 0) rfl))) (mvT hZ (hw _ (List.mem_of_getElem? (i := 1) rfl))) (mvT hZ (hw _ (List.mem_of_getElem? (i := 2) rfl))) (mvT hZ (hw _ (List.mem_of_getElem? (i := 3) rfl))) (by decide) (backOf (W := 0) (rm1 l Z av0 hw [] i2 h0 n0 Z0) hZ (hw _ (List.mem_of_getElem? (i := 3) rfl)) (hw _ (List.mem_of_getElem? (i := 2) rfl)) (by decide) (by decide)) (g := (mkF m 14 #[.val (.int i0), .val (.int i1), .val (.int i2), .val (.int i3), .val (.int i4), .val (.int ((1 : Int32) + (i0 &&& (3 : Int32)))), .val (.int (own_al i1)), .unset, .unset, .unset, .unset, .unset, .unset] [(.int i2)])) rfl (by rw [hml]; rfl) (argsL := [(.int i2)]) (rest := []) (lenOf own_pd5 rfl) rfl (by show 2 * 0 + _ ≤ _; exact Nat.le_of_eq rfl) (hb hby at_14) (fun _ _ => ⟨rfl, e1, (by decide : 0 + 0 ≤ _), (by decide : 0 + 0 ≤ _)⟩)
  dsimp only [Pt.U, Pt.locs, Pt.cells, Pt.slots] at X2 l2 y2 z2 st2 hQ2
  subst l2 y2 z2
  obtain ⟨rfl, N2q, e2⟩ := hQ2
  have N2 := Fr.app N1 N2q
  refine OGo.by st2 ?_
  show OGo p e below _ (T2.setTop (mkF m 17 #[.val (.int i0), .val (.int i1), .val (.int i2), .val (.int i3), .val (.int i4), .val (.int ((1 : Int32) + (i0 &&& (3 : Int32)))), .val (.int (own_al i1)), .unset, .unset, .unset, .unset, .unset, .unset] [(.int (own_al i2))]))
  refine OGo.by (fun _ k => XS.istore X2.here hx rfl (hb hby at_17) rfl (l' := #[.val (.int i0), .val (.int i1), .val (.int i2), .val (.int i3), .val (.int i4), .val (.int ((1 : Int32) + (i0 &&& (3 : Int32)))), .val (.int (own_al i1)), .val (.int (own_al i2)), .unset, .unset, .unset, .unset, .unset]) rfl k) ?_
  show OGo p e below _ (T2.setTop (mkF m 19 #[.val (.int i0), .val (.int i1), .val (.int i2), .val (.int i3), .val (.int i4), .val (.int ((1 : Int32) + (i0 &&& (3 : Int32)))), .val (.int (own_al i1)), .val (.int (own_al i2)), .unset, .unset, .unset, .unset, .unset] []))
  refine OGo.by (fun _ k => XS.iloadN X2.here hx rfl (hb hby at_19) rfl k) ?_
  show OGo p e below _ (T2.setTop (mkF m 20 #[.val (.int i0), .val (.int i1), .val (.int i2), .val (.int i3), .val (.int i4), .val (.int ((1 : Int32) + (i0 &&& (3 : Int32)))), .val (.int (own_al i1)), .val (.int (own_al i2)), .unset, .unset, .unset, .unset, .unset] [(.int i3)]))
  obtain ⟨_, _, ⟨T3, L3, k3, n3⟩, -, X3, ⟨Lc3, hQ3, l3, y3, z3⟩, st3⟩ := Jvm.LawKit.callS X2 hx (y := (⟨"com/example/trusty_lock/trustylock/LockNameOfPinLaw", "allowed", "(I)C"⟩ : MethodName)) hown (mvT hZ (hw _ (List.mem_of_getElem? (i := 0) rfl))) (mvT hZ (hw _ (List.mem_of_getElem? (i := 1) rfl))) (mvT hZ (hw _ (List.mem_of_getElem? (i := 2) rfl))) (mvT hZ (hw _ (List.mem_of_getElem? (i := 3) rfl))) (by decide) (backOf (W := 0) (rm1 l Z av0 hw [] i3 h0 n0 Z0) hZ (hw _ (List.mem_of_getElem? (i := 3) rfl)) (hw _ (List.mem_of_getElem? (i := 2) rfl)) (by decide) (by decide)) (g := (mkF m 20 #[.val (.int i0), .val (.int i1), .val (.int i2), .val (.int i3), .val (.int i4), .val (.int ((1 : Int32) + (i0 &&& (3 : Int32)))), .val (.int (own_al i1)), .val (.int (own_al i2)), .unset, .unset, .unset, .unset, .unset] [(.int i3)])) rfl (by rw [hml]; rfl) (argsL := [(.int i3)]) (rest := []) (lenOf own_pd5 rfl) rfl (by show 2 * 0 + _ ≤ _; exact Nat.le_of_eq rfl) (hb hby at_20) (fun _ _ => ⟨rfl, e2, (by decide : 0 + 0 ≤ _), (by decide : 0 + 0 ≤ _)⟩)
  dsimp only [Pt.U, Pt.locs, Pt.cells, Pt.slots] at X3 l3 y3 z3 st3 hQ3
  subst l3 y3 z3
  obtain ⟨rfl, N3q, e3⟩ := hQ3
  have N3 := Fr.app N2 N3q
  refine OGo.by st3 ?_
  show OGo p e below _ (T3.setTop (mkF m 23 #[.val (.int i0), .val (.int i1), .val (.int i2), .val (.int i3), .val (.int i4), .val (.int ((1 : Int32) + (i0 &&& (3 : Int32)))), .val (.int (own_al i1)), .val (.int (own_al i2)), .unset, .unset, .unset, .unset, .unset] [(.int (own_al i3))]))
  refine OGo.by (fun _ k => XS.istore X3.here hx rfl (hb hby at_23) rfl (l' := #[.val (.int i0), .val (.int i1), .val (.int i2), .val (.int i3), .val (.int i4), .val (.int ((1 : Int32) + (i0 &&& (3 : Int32)))), .val (.int (own_al i1)), .val (.int (own_al i2)), .val (.int (own_al i3)), .unset, .unset, .unset, .unset]) rfl k) ?_
  show OGo p e below _ (T3.setTop (mkF m 25 #[.val (.int i0), .val (.int i1), .val (.int i2), .val (.int i3), .val (.int i4), .val (.int ((1 : Int32) + (i0 &&& (3 : Int32)))), .val (.int (own_al i1)), .val (.int (own_al i2)), .val (.int (own_al i3)), .unset, .unset, .unset, .unset] []))
  refine OGo.by (fun _ k => XS.iload X3.here hx rfl (hb hby at_25) rfl k) ?_
  show OGo p e below _ (T3.setTop (mkF m 27 #[.val (.int i0), .val (.int i1), .val (.int i2), .val (.int i3), .val (.int i4), .val (.int ((1 : Int32) + (i0 &&& (3 : Int32)))), .val (.int (own_al i1)), .val (.int (own_al i2)), .val (.int (own_al i3)), .unset, .unset, .unset, .unset] [(.int i4)]))
  obtain ⟨_, _, ⟨T4, L4, k4, n4⟩, -, X4, ⟨Lc4, hQ4, l4, y4, z4⟩, st4⟩ := Jvm.LawKit.callS X3 hx (y := (⟨"com/example/trusty_lock/trustylock/LockNameOfPinLaw", "allowed", "(I)C"⟩ : MethodName)) hown (mvT hZ (hw _ (List.mem_of_getElem? (i := 0) rfl))) (mvT hZ (hw _ (List.mem_of_getElem? (i := 1) rfl))) (mvT hZ (hw _ (List.mem_of_getElem? (i := 2) rfl))) (mvT hZ (hw _ (List.mem_of_getElem? (i := 3) rfl))) (by decide) (backOf (W := 0) (rm1 l Z av0 hw [] i4 h0 n0 Z0) hZ (hw _ (List.mem_of_getElem? (i := 3) rfl)) (hw _ (List.mem_of_getElem? (i := 2) rfl)) (by decide) (by decide)) (g := (mkF m 27 #[.val (.int i0), .val (.int i1), .val (.int i2), .val (.int i3), .val (.int i4), .val (.int ((1 : Int32) + (i0 &&& (3 : Int32)))), .val (.int (own_al i1)), .val (.int (own_al i2)), .val (.int (own_al i3)), .unset, .unset, .unset, .unset] [(.int i4)])) rfl (by rw [hml]; rfl) (argsL := [(.int i4)]) (rest := []) (lenOf own_pd5 rfl) rfl (by show 2 * 0 + _ ≤ _; exact Nat.le_of_eq rfl) (hb hby at_27) (fun _ _ => ⟨rfl, e3, (by decide : 0 + 0 ≤ _), (by decide : 0 + 0 ≤ _)⟩)
  dsimp only [Pt.U, Pt.locs, Pt.cells, Pt.slots] at X4 l4 y4 z4 st4 hQ4
  subst l4 y4 z4
  obtain ⟨rfl, N4q, e4⟩ := hQ4
  have N4 := Fr.app N3 N4q
  refine OGo.by st4 ?_
  show OGo p e below _ (T4.setTop (mkF m 30 #[.val (.int i0), .val (.int i1), .val (.int i2), .val (.int i3), .val (.int i4), .val (.int ((1 : Int32) + (i0 &&& (3 : Int32)))), .val (.int (own_al i1)), .val (.int (own_al i2)), .val (.int (own_al i3)), .unset, .unset, .unset, .unset] [(.int (own_al i4))]))
  refine OGo.by (fun _ k => XS.istore X4.here hx rfl (hb hby at_30) rfl (l' := #[.val (.int i0), .val (.int i1), .val (.int i2), .val (.int i3), .val (.int i4), .val (.int ((1 : Int32) + (i0 &&& (3 : Int32)))), .val (.int (own_al i1)), .val (.int (own_al i2)), .val (.int (own_al i3)), .val (.int (own_al i4)), .unset, .unset, .unset]) rfl k) ?_
  show OGo p e below _ (T4.setTop (mkF m 32 #[.val (.int i0), .val (.int i1), .val (.int i2), .val (.int i3), .val (.int i4), .val (.int ((1 : Int32) + (i0 &&& (3 : Int32)))), .val (.int (own_al i1)), .val (.int (own_al i2)), .val (.int (own_al i3)), .val (.int (own_al i4)), .unset, .unset, .unset] []))
  refine OGo.by (fun _ k => XS.iload X4.here hx rfl (hb hby at_32) rfl k) ?_
  show OGo p e below _ (T4.setTop (mkF m 34 #[.val (.int i0), .val (.int i1), .val (.int i2), .val (.int i3), .val (.int i4), .val (.int ((1 : Int32) + (i0 &&& (3 : Int32)))), .val (.int (own_al i1)), .val (.int (own_al i2)), .val (.int (own_al i3)), .val (.int (own_al i4)), .unset, .unset, .unset] [(.int ((1 : Int32) + (i0 &&& (3 : Int32))))]))
  refine OGo.by (fun _ k => XS.iload X4.here hx rfl (hb hby at_34) rfl k) ?_
  show OGo p e below _ (T4.setTop (mkF m 36 #[.val (.int i0), .val (.int i1), .val (.int i2), .val (.int i3), .val (.int i4), .val (.int ((1 : Int32) + (i0 &&& (3 : Int32)))), .val (.int (own_al i1)), .val (.int (own_al i2)), .val (.int (own_al i3)), .val (.int (own_al i4)), .unset, .unset, .unset] [(.int (own_al i1)), (.int ((1 : Int32) + (i0 &&& (3 : Int32))))]))
  refine OGo.by (fun _ k => XS.iload X4.here hx rfl (hb hby at_36) rfl k) ?_
  show OGo p e below _ (T4.setTop (mkF m 38 #[.val (.int i0), .val (.int i1), .val (.int i2), .val (.int i3), .val (.int i4), .val (.int ((1 : Int32) + (i0 &&& (3 : Int32)))), .val (.int (own_al i1)), .val (.int (own_al i2)), .val (.int (own_al i3)), .val (.int (own_al i4)), .unset, .unset, .unset] [(.int (own_al i2)), (.int (own_al i1)), (.int ((1 : Int32) + (i0 &&& (3 : Int32))))]))
  refine OGo.by (fun _ k => XS.iload X4.here hx rfl (hb hby at_38) rfl k) ?_
  show OGo p e below _ (T4.setTop (mkF m 40 #[.val (.int i0), .val (.int i1), .val (.int i2), .val (.int i3), .val (.int i4), .val (.int ((1 : Int32) + (i0 &&& (3 : Int32)))), .val (.int (own_al i1)), .val (.int (own_al i2)), .val (.int (own_al i3)), .val (.int (own_al i4)), .unset, .unset, .unset] [(.int (own_al i3)), (.int (own_al i2)), (.int (own_al i1)), (.int ((1 : Int32) + (i0 &&& (3 : Int32))))]))
  refine OGo.by (fun _ k => XS.iload X4.here hx rfl (hb hby at_40) rfl k) ?_
  show OGo p e below _ (T4.setTop (mkF m 42 #[.val (.int i0), .val (.int i1), .val (.int i2), .val (.int i3), .val (.int i4), .val (.int ((1 : Int32) + (i0 &&& (3 : Int32)))), .val (.int (own_al i1)), .val (.int (own_al i2)), .val (.int (own_al i3)), .val (.int (own_al i4)), .unset, .unset, .unset] [(.int (own_al i4)), (.int (own_al i3)), (.int (own_al i2)), (.int (own_al i1)), (.int ((1 : Int32) + (i0 &&& (3 : Int32))))]))
  rcases own_four i0 with hf | hf | hf | hf
  · obtain ⟨_, _, ⟨T5, L5, k5, n5⟩, -, X5, ⟨Lc5, hQ5, l5, y5, z5⟩, st5⟩ := Jvm.LawKit.callS X4 hx (y := (⟨"com/example/trusty_lock/trustylock/LockNameOfPinLaw", "make", "(ICCCC)Ljava/lang/String;"⟩ : MethodName)) hown (mvT hZ (hw _ (List.mem_of_getElem? (i := 5) rfl))) (mvT hZ (hw _ (List.mem_of_getElem? (i := 6) rfl))) (mvT hZ (hw _ (List.mem_of_getElem? (i := 2) rfl))) (mvT hZ (hw _ (List.mem_of_getElem? (i := 7) rfl))) (by decide) (backOf (W := 0) (rmMk1 l Z av0 hw [] ((1 : Int32) + (i0 &&& (3 : Int32))) (own_al i1) (own_al i2) (own_al i3) (own_al i4) cz h0 n0 Z0 hf (own_al_ok i1).2.1 (own_al_ok i1).1 (own_al_ok i2).2.1 (own_al_ok i2).1 (own_al_ok i3).2.1 (own_al_ok i3).1 (own_al_ok i4).2.1 (own_al_ok i4).1 O0 S1 hcz) hZ (hw _ (List.mem_of_getElem? (i := 7) rfl)) (hw _ (List.mem_of_getElem? (i := 2) rfl)) (by decide) (by decide)) (g := (mkF m 42 #[.val (.int i0), .val (.int i1), .val (.int i2), .val (.int i3), .val (.int i4), .val (.int ((1 : Int32) + (i0 &&& (3 : Int32)))), .val (.int (own_al i1)), .val (.int (own_al i2)), .val (.int (own_al i3)), .val (.int (own_al i4)), .unset, .unset, .unset] [(.int (own_al i4)), (.int (own_al i3)), (.int (own_al i2)), (.int (own_al i1)), (.int ((1 : Int32) + (i0 &&& (3 : Int32))))])) rfl (by rw [hml]; rfl) (argsL := [(.int ((1 : Int32) + (i0 &&& (3 : Int32)))), (.int (own_al i1)), (.int (own_al i2)), (.int (own_al i3)), (.int (own_al i4))]) (rest := []) (lenOf own_pd7 rfl) rfl (by show 2 * 0 + _ ≤ _; exact Nat.le_of_eq rfl) (hb hby at_42) (fun _ _ => ⟨rfl, e4, (by decide : 0 + 3 ≤ _), (by decide : 0 + 6 ≤ _)⟩)
    dsimp only [Pt.U, Pt.locs, Pt.cells, Pt.slots] at X5 l5 y5 z5 st5 hQ5
    subst l5 y5 z5
    obtain ⟨b_5, t_5, kb_5, rfl, N5q, Kc5, G5_0, G5_1, G5_2, G5_3, G5_4, G5_5, G5_6, G5_7, G5_8⟩ := hQ5
    have N5 := Fr.app N4 N5q
    have g_b_5 : n0 ≤ b_5 := Nat.le_trans Z0 G5_0
    have sz_b_5 : h0.size ≤ b_5 := Nat.le_trans (Nat.le_refl _) G5_0
    have g_t_5 : n0 ≤ t_5 := Nat.le_trans Z0 G5_2
    have sz_t_5 : h0.size ≤ t_5 := Nat.le_trans (Nat.le_refl _) G5_2
    have K5 : Keep h0 T5.heap [] := ((Keep.refl h0 [])).trans Kc5 (fun x hx => nomatch hx)
    refine OGo.by st5 ?_
    show OGo p e below _ (T5.setTop (mkF m 45 #[.val (.int i0), .val (.int i1), .val (.int i2), .val (.int i3), .val (.int i4), .val (.int ((1 : Int32) + (i0 &&& (3 : Int32)))), .val (.int (own_al i1)), .val (.int (own_al i2)), .val (.int (own_al i3)), .val (.int (own_al i4)), .unset, .unset, .unset] [(.ref b_5)]))
    have hp5 : ∀ c ∈ ([(nar .char (own_al i1))] : List Int32), ¬ c < 0 ∧ ¬ (255 : Int32) < c := by
      intro c hc; simp only [List.mem_cons, List.not_mem_nil, or_false] at hc
      rcases hc with rfl <;> exact own_nar (own_al_ok _).2.1 (own_al_ok _).1
    have ha5 : ∀ c ∈ ([(nar .char (own_al i1))] : List Int32), own_isA c = (1 : Int32) := by
      intro c hc; simp only [List.mem_cons, List.not_mem_nil, or_false] at hc
      rcases hc with rfl <;> exact (own_al_ok _).2.2
    refine OGo.by (fun _ k => XS.astore X5.here hx rfl (hb hby at_45) rfl rfl (l' := #[.val (.int i0), .val (.int i1), .val (.int i2), .val (.int i3), .val (.int i4), .val (.int ((1 : Int32) + (i0 &&& (3 : Int32)))), .val (.int (own_al i1)), .val (.int (own_al i2)), .val (.int (own_al i3)), .val (.int (own_al i4)), .val (.ref b_5), .unset, .unset]) rfl k) ?_
    show OGo p e below _ (T5.setTop (mkF m 47 #[.val (.int i0), .val (.int i1), .val (.int i2), .val (.int i3), .val (.int i4), .val (.int ((1 : Int32) + (i0 &&& (3 : Int32)))), .val (.int (own_al i1)), .val (.int (own_al i2)), .val (.int (own_al i3)), .val (.int (own_al i4)), .val (.ref b_5), .unset, .unset] []))
    refine OGo.by (fun _ k => XS.aload X5.here hx rfl (hb hby at_47) rfl rfl k) ?_
    show OGo p e below _ (T5.setTop (mkF m 49 #[.val (.int i0), .val (.int i1), .val (.int i2), .val (.int i3), .val (.int i4), .val (.int ((1 : Int32) + (i0 &&& (3 : Int32)))), .val (.int (own_al i1)), .val (.int (own_al i2)), .val (.int (own_al i3)), .val (.int (own_al i4)), .val (.ref b_5), .unset, .unset] [(.ref b_5)]))
    have hcd6 : StrChars.Road.CodA ([(nar .char (own_al i1))] : List Int32) 0 (1 : Int32) ((([(nar .char (own_al i1))] : List Int32).map (fun c => c.toInt8.toInt32)).map Value.int) := StrChars.Road.codOf (n := 1) rfl (fun c hc => (hp5 c hc).2)
    have hbd6 : ∀ c ∈ ([(nar .char (own_al i1))] : List Int32), ¬ c < 0 ∧ ¬ (65535 : Int32) < c := own_up _ hp5
    have f8 : Old Z n0 T5.heap := (O0.keep Kc5 all0)
    obtain ⟨_, _, ⟨T7, L7, k7, n7⟩, -, Xw7, hs7, hg7, ⟨Lc7, hQ7, l7, y7, z7⟩, st7⟩ := callSS X5 hx (y := (⟨"com/example/trusty_lock/trustylock/LockName", "of", "(Ljava/lang/String;)Lcom/example/trusty_lock/trustylock/LockName;"⟩ : MethodName)) hown (mvT hZ (hw _ (List.mem_of_getElem? (i := 38) rfl))) (mvT hZ (hw _ (List.mem_of_getElem? (i := 39) rfl))) (mvT hZ (hw _ (List.mem_of_getElem? (i := 40) rfl))) (mvT hZ (hw _ (List.mem_of_getElem? (i := 41) rfl))) (by decide) (backOfS (W := 0) (rmOf l Z av0 hw [] b_5 t_5 kb_5 ([(nar .char (own_al i1))] : List Int32) (1 : Int32) cz fm T5.heap n0 (Nat.le_trans Z0 K5.1) G5_5 G5_7 G5_6 G5_8 hcd6 hbd6 (Nat.le_of_ble_eq_true rfl) (Nat.le_of_ble_eq_true rfl) ha5 f8 S1 hcz S2 fm_isref) hZ (hw _ (List.mem_of_getElem? (i := 41) rfl)) (hw _ (List.mem_of_getElem? (i := 40) rfl)) (by decide) (by decide)) (g := (mkF m 49 #[.val (.int i0), .val (.int i1), .val (.int i2), .val (.int i3), .val (.int i4), .val (.int ((1 : Int32) + (i0 &&& (3 : Int32)))), .val (.int (own_al i1)), .val (.int (own_al i2)), .val (.int (own_al i3)), .val (.int (own_al i4)), .val (.ref b_5), .unset, .unset] [(.ref b_5)])) rfl (by rw [hml]; rfl) (argsL := [(.ref b_5)]) (rest := []) (lenOf own_pd8 rfl) rfl (by show 2 * 0 + _ ≤ _; exact Nat.le_of_eq rfl) (hb hby at_49) (fun _ _ => ⟨rfl, rfl, (by decide : 3 + 3 ≤ _), (by decide : 6 + 21 ≤ _)⟩)
    dsimp only [Pt.U, Pt.locs, Pt.cells, Pt.slots] at Xw7 hs7 hg7 l7 y7 z7 st7 hQ7
    subst l7 y7 z7
    have f9 : 0 ≤ T5.heap.size := (Nat.le_trans (Nat.zero_le _) Kc5.1)
    obtain ⟨X7, hS7, hZ7, hown7⟩ := rebS (s := s) (vm0 := s.vm) hS0 (n1 := T5.heap.size) (by exact f9) Xw7 hs7 hg7 hZ hown
    obtain ⟨b_7, rfl, N7q, Kc7, G7_0, G7_1, G7_2, G7_3⟩ := hQ7
    have N7 := Fr.app N5 N7q
    have ne_b_5_b_7 : b_5 ≠ b_7 := Nat.ne_of_lt (Nat.lt_of_lt_of_le G5_5.lt G7_0)
    have ne_t_5_b_7 : t_5 ≠ b_7 := Nat.ne_of_lt (Nat.lt_of_lt_of_le G5_8.lt G7_0)
    have g_b_7 : n0 ≤ b_7 := Nat.le_trans (Nat.le_trans Z0 K5.1) G7_0
    have sz_b_7 : h0.size ≤ b_7 := Nat.le_trans K5.1 G7_0
    have K7 : Keep h0 T7.heap [] := (K5).trans Kc7 (fun x hx => nomatch hx)
    refine OGo.of st7 ?_
    show OGo p e below _ (T7.setTop (mkF m 52 #[.val (.int i0), .val (.int i1), .val (.int i2), .val (.int i3), .val (.int i4), .val (.int ((1 : Int32) + (i0 &&& (3 : Int32)))), .val (.int (own_al i1)), .val (.int (own_al i2)), .val (.int (own_al i3)), .val (.int (own_al i4)), .val (.ref b_5), .unset, .unset] [(.ref b_7)]))
    refine OGo.by (fun _ k => XS.astore X7.here hx rfl (hb hby at_52) rfl rfl (l' := #[.val (.int i0), .val (.int i1), .val (.int i2), .val (.int i3), .val (.int i4), .val (.int ((1 : Int32) + (i0 &&& (3 : Int32)))), .val (.int (own_al i1)), .val (.int (own_al i2)), .val (.int (own_al i3)), .val (.int (own_al i4)), .val (.ref b_5), .val (.ref b_7), .unset]) rfl k) ?_
    show OGo p e below _ (T7.setTop (mkF m 54 #[.val (.int i0), .val (.int i1), .val (.int i2), .val (.int i3), .val (.int i4), .val (.int ((1 : Int32) + (i0 &&& (3 : Int32)))), .val (.int (own_al i1)), .val (.int (own_al i2)), .val (.int (own_al i3)), .val (.int (own_al i4)), .val (.ref b_5), .val (.ref b_7), .unset] []))
    refine OGo.by (fun _ k => XS.aload X7.here hx rfl (hb hby at_54) rfl rfl k) ?_
    show OGo p e below _ (T7.setTop (mkF m 56 #[.val (.int i0), .val (.int i1), .val (.int i2), .val (.int i3), .val (.int i4), .val (.int ((1 : Int32) + (i0 &&& (3 : Int32)))), .val (.int (own_al i1)), .val (.int (own_al i2)), .val (.int (own_al i3)), .val (.int (own_al i4)), .val (.ref b_5), .val (.ref b_7), .unset] [(.ref b_7)]))
    obtain ⟨cq10, kq10, q10a, q10b, q10c⟩ := isOf hZ7 rfl G7_2
    obtain ⟨_, _, ⟨T10, L10, k10, n10⟩, -, X10, ⟨Lc10, hQ10, l10, y10, z10⟩, st10⟩ := X7.virtualBack hx (y := (⟨"com/example/trusty_lock/trustylock/LockName", "toString", "()Ljava/lang/String;"⟩ : MethodName)) (z := (⟨"com/example/trusty_lock/trustylock/LockName", "toString", "()Ljava/lang/String;"⟩ : MethodName)) hown7 (mvT hZ7 (hw _ (List.mem_of_getElem? (i := 97) rfl))) (mvT hZ7 (hw _ (List.mem_of_getElem? (i := 98) rfl))) (notFace_of_selects (args := #[]) (mvT hZ7 (hw _ (List.mem_of_getElem? (i := 100) rfl)))) (mvT hZ7 (hw _ (List.mem_of_getElem? (i := 100) rfl))) (mvT hZ7 (hw _ (List.mem_of_getElem? (i := 99) rfl))) (by decide) (backOf (W := 0) (rm21 l Z av0 hw [] b_7 b_5 T7.heap n0 (Nat.le_trans Z0 K7.1) G7_3) hZ7 (hw _ (List.mem_of_getElem? (i := 101) rfl)) (hw _ (List.mem_of_getElem? (i := 40) rfl)) (by decide) (by decide)) q10a q10c (g := (mkF m 56 #[.val (.int i0), .val (.int i1), .val (.int i2), .val (.int i3), .val (.int i4), .val (.int ((1 : Int32) + (i0 &&& (3 : Int32)))), .val (.int (own_al i1)), .val (.int (own_al i2)), .val (.int (own_al i3)), .val (.int (own_al i4)), .val (.ref b_5), .val (.ref b_7), .unset] [(.ref b_7)])) rfl (by rw [hml]; rfl) (Steps.refl _) (argsL := []) (rest := []) (lenOf own_pd9 rfl) rfl (by show 2 * 0 + _ ≤ _; exact Nat.le_of_eq rfl) (hb hby at_56) (fun _ _ => ⟨rfl, rfl, (by decide : 6 + 0 ≤ _), (by decide : 27 + 0 ≤ _)⟩)
    dsimp only [Pt.U, Pt.locs, Pt.cells, Pt.slots] at X10 l10 y10 z10 st10 hQ10
    subst l10 y10 z10
    obtain ⟨rfl, N10q, e10⟩ := hQ10
    have N10 := Fr.app N7 N10q
    refine OGo.of st10 ?_
    show OGo p e below _ (T10.setTop (mkF m 59 #[.val (.int i0), .val (.int i1), .val (.int i2), .val (.int i3), .val (.int i4), .val (.int ((1 : Int32) + (i0 &&& (3 : Int32)))), .val (.int (own_al i1)), .val (.int (own_al i2)), .val (.int (own_al i3)), .val (.int (own_al i4)), .val (.ref b_5), .val (.ref b_7), .unset] [(.ref b_5)]))
    refine OGo.by (fun _ k => XS.astore X10.here hx rfl (hb hby at_59) rfl rfl (l' := #[.val (.int i0), .val (.int i1), .val (.int i2), .val (.int i3), .val (.int i4), .val (.int ((1 : Int32) + (i0 &&& (3 : Int32)))), .val (.int (own_al i1)), .val (.int (own_al i2)), .val (.int (own_al i3)), .val (.int (own_al i4)), .val (.ref b_5), .val (.ref b_7), .val (.ref b_5)]) rfl k) ?_
    show OGo p e below _ (T10.setTop (mkF m 61 #[.val (.int i0), .val (.int i1), .val (.int i2), .val (.int i3), .val (.int i4), .val (.int ((1 : Int32) + (i0 &&& (3 : Int32)))), .val (.int (own_al i1)), .val (.int (own_al i2)), .val (.int (own_al i3)), .val (.int (own_al i4)), .val (.ref b_5), .val (.ref b_7), .val (.ref b_5)] []))
    refine OGo.by (fun _ k => XS.aload X10.here hx rfl (hb hby at_61) rfl rfl k) ?_
    show OGo p e below _ (T10.setTop (mkF m 63 #[.val (.int i0), .val (.int i1), .val (.int i2), .val (.int i3), .val (.int i4), .val (.int ((1 : Int32) + (i0 &&& (3 : Int32)))), .val (.int (own_al i1)), .val (.int (own_al i2)), .val (.int (own_al i3)), .val (.int (own_al i4)), .val (.ref b_5), .val (.ref b_7), .val (.ref b_5)] [(.ref b_5)]))
    have f12 : Exa Z T7.heap b_5 "java/lang/String" := (G5_5.keep Kc7)
    have f13 : Fld Z T7.heap b_5 "java/lang/String" "value" "[B" (.ref t_5) := (G5_7.keep Kc7 nin0)
    have f14 : Fld Z T7.heap b_5 "java/lang/String" "coder" "B" (.int (0 : Int32)) := (G5_6.keep Kc7 nin0)
    have f15 : Arv Z T7.heap t_5 kb_5 .byte (1 : Int32) ((([(nar .char (own_al i1))] : List Int32).map (fun c => c.toInt8.toInt32)).map Value.int) (.int 0) := (G5_8.keep Kc7 nin0)
    have f16 : Old Z n0 T7.heap := (f8.keep Kc7 all0)
    have hsw11 : ∀ d ∈ StrChars.Road.wordsLen, d.before av0 Z = true := fun d hd => hw d ((by decide +kernel : ∀ d ∈ StrChars.Road.wordsLen, d ∈ tables_1) d hd)
    obtain ⟨cq11, kq11, q11a, q11b, q11c⟩ := isOf hZ7 e10 f12
    obtain ⟨v11, _, ⟨T11, L11, k11, n11⟩, -, X11, ⟨Lc11, hQ11, l11, y11, z11⟩, st11⟩ := X10.virtualBack hx (y := (⟨"java/lang/String", "length", "()I"⟩ : MethodName)) (z := (⟨"java/lang/String", "length", "()I"⟩ : MethodName)) hown7 (mvT hZ7 (hw _ (List.mem_of_getElem? (i := 102) rfl))) (mvT hZ7 (hw _ (List.mem_of_getElem? (i := 55) rfl))) (notFace_of_selects (args := #[]) (mvT hZ7 (hw _ (List.mem_of_getElem? (i := 57) rfl)))) (mvT hZ7 (hw _ (List.mem_of_getElem? (i := 57) rfl))) (mvT hZ7 (hw _ (List.mem_of_getElem? (i := 56) rfl))) (by decide) (StrChars.Road.lenW (W := 0) hZ7 hsw11 (kI := 4) (hw _ (List.mem_of_getElem? (i := 9) rfl)) f12 f13 f14 f15 hcd6 hbd6 (S1.ext f16.2) hcz (Nat.le_of_ble_eq_true rfl) (by decide) (by decide)) q11a q11c (g := (mkF m 63 #[.val (.int i0), .val (.int i1), .val (.int i2), .val (.int i3), .val (.int i4), .val (.int ((1 : Int32) + (i0 &&& (3 : Int32)))), .val (.int (own_al i1)), .val (.int (own_al i2)), .val (.int (own_al i3)), .val (.int (own_al i4)), .val (.ref b_5), .val (.ref b_7), .val (.ref b_5)] [(.ref b_5)])) rfl (by rw [hml]; rfl) (Steps.refl _) (argsL := []) (rest := []) (lenOf own_pd3 rfl) rfl (by show 2 * 0 + _ ≤ _; exact Nat.le_of_eq rfl) (hb hby at_63) (fun _ _ => ⟨rfl, e10, (by decide : 6 + 0 ≤ _), (by decide : 27 + 0 ≤ _)⟩)
    dsimp only [Pt.U, Pt.locs, Pt.cells, Pt.slots] at X11 l11 y11 z11 st11 hQ11
    subst l11 y11 z11
    obtain ⟨rfl, rfl, e11⟩ := hQ11
    have N11 := Fr.app N10 (Fr.nil n0)
    refine OGo.of st11 ?_
    show OGo p e below _ (T11.setTop (mkF m 66 #[.val (.int i0), .val (.int i1), .val (.int i2), .val (.int i3), .val (.int i4), .val (.int ((1 : Int32) + (i0 &&& (3 : Int32)))), .val (.int (own_al i1)), .val (.int (own_al i2)), .val (.int (own_al i3)), .val (.int (own_al i4)), .val (.ref b_5), .val (.ref b_7), .val (.ref b_5)] [(.int (1 : Int32))]))
    refine OGo.by (fun _ k => XS.iload X11.here hx rfl (hb hby at_66) rfl k) ?_
    show OGo p e below _ (T11.setTop (mkF m 68 #[.val (.int i0), .val (.int i1), .val (.int i2), .val (.int i3), .val (.int i4), .val (.int ((1 : Int32) + (i0 &&& (3 : Int32)))), .val (.int (own_al i1)), .val (.int (own_al i2)), .val (.int (own_al i3)), .val (.int (own_al i4)), .val (.ref b_5), .val (.ref b_7), .val (.ref b_5)] [(.int ((1 : Int32) + (i0 &&& (3 : Int32)))), (.int (1 : Int32))]))
    refine OGo.by (fun _ k => XS.icmpNo X11.here hx rfl (hb hby at_68) rfl (teq hf.symm).2 k) ?_
    show OGo p e below _ (T11.setTop (mkF m 71 #[.val (.int i0), .val (.int i1), .val (.int i2), .val (.int i3), .val (.int i4), .val (.int ((1 : Int32) + (i0 &&& (3 : Int32)))), .val (.int (own_al i1)), .val (.int (own_al i2)), .val (.int (own_al i3)), .val (.int (own_al i4)), .val (.ref b_5), .val (.ref b_7), .val (.ref b_5)] []))
    refine OGo.by (fun _ k => XS.aload X11.here hx rfl (hb hby at_71) rfl rfl k) ?_
    show OGo p e below _ (T11.setTop (mkF m 73 #[.val (.int i0), .val (.int i1), .val (.int i2), .val (.int i3), .val (.int i4), .val (.int ((1 : Int32) + (i0 &&& (3 : Int32)))), .val (.int (own_al i1)), .val (.int (own_al i2)), .val (.int (own_al i3)), .val (.int (own_al i4)), .val (.ref b_5), .val (.ref b_7), .val (.ref b_5)] [(.ref b_5)]))
    refine OGo.by (fun _ k => XS.iconst X11.here hx rfl (hb hby at_73) k) ?_
    show OGo p e below _ (T11.setTop (mkF m 74 #[.val (.int i0), .val (.int i1), .val (.int i2), .val (.int i3), .val (.int i4), .val (.int ((1 : Int32) + (i0 &&& (3 : Int32)))), .val (.int (own_al i1)), .val (.int (own_al i2)), .val (.int (own_al i3)), .val (.int (own_al i4)), .val (.ref b_5), .val (.ref b_7), .val (.ref b_5)] [(.int (0 : Int32)), (.ref b_5)]))
    have hsw17 : ∀ d ∈ StrChars.Road.wordsChN, d.before av0 Z = true := fun d hd => hw d ((by decide +kernel : ∀ d ∈ StrChars.Road.wordsChN, d ∈ tables_1) d hd)
    obtain ⟨cq17, kq17, q17a, q17b, q17c⟩ := isOf hZ7 e11 f12
    obtain ⟨v17, _, ⟨T17, L17, k17, n17⟩, -, X17, ⟨Lc17, hQ17, l17, y17, z17⟩, st17⟩ := X11.virtualBack hx (y := (⟨"java/lang/String", "charAt", "(I)C"⟩ : MethodName)) (z := (⟨"java/lang/String", "charAt", "(I)C"⟩ : MethodName)) hown7 (mvT hZ7 (hw _ (List.mem_of_getElem? (i := 103) rfl))) (mvT hZ7 (hw _ (List.mem_of_getElem? (i := 65) rfl))) (notFace_of_selects (args := #[]) (mvT hZ7 (hw _ (List.mem_of_getElem? (i := 67) rfl)))) (mvT hZ7 (hw _ (List.mem_of_getElem? (i := 67) rfl))) (mvT hZ7 (hw _ (List.mem_of_getElem? (i := 66) rfl))) (by decide) (StrChars.Road.chN (W := 0) hZ7 hsw17 (kI := 4) (hw _ (List.mem_of_getElem? (i := 9) rfl)) f12 f13 f14 f15 hcd6 hbd6 (S1.ext f16.2) hcz (S2.ext f16.2) fm_isref (Nat.le_of_ble_eq_true rfl) (i := 0) (Nat.le_of_ble_eq_true rfl) (j := (0 : Int32)) rfl (by decide) (by decide)) q17a q17c (g := (mkF m 74 #[.val (.int i0), .val (.int i1), .val (.int i2), .val (.int i3), .val (.int i4), .val (.int ((1 : Int32) + (i0 &&& (3 : Int32)))), .val (.int (own_al i1)), .val (.int (own_al i2)), .val (.int (own_al i3)), .val (.int (own_al i4)), .val (.ref b_5), .val (.ref b_7), .val (.ref b_5)] [(.int (0 : Int32)), (.ref b_5)])) rfl (by rw [hml]; rfl) (Steps.refl _) (argsL := [(.int (0 : Int32))]) (rest := []) (lenOf own_pd5 rfl) rfl (by show 2 * 0 + _ ≤ _; exact Nat.le_of_eq rfl) (hb hby at_74) (fun _ _ => ⟨rfl, e11, (by decide : 6 + 0 ≤ _), (by decide : 27 + 0 ≤ _)⟩)
    dsimp only [Pt.U, Pt.locs, Pt.cells, Pt.slots] at X17 l17 y17 z17 st17 hQ17
    subst l17 y17 z17
    obtain ⟨rfl, rfl, e17⟩ := hQ17
    have N17 := Fr.app N11 (Fr.nil n0)
    refine OGo.of st17 ?_
    show OGo p e below _ (T17.setTop (mkF m 77 #[.val (.int i0), .val (.int i1), .val (.int i2), .val (.int i3), .val (.int i4), .val (.int ((1 : Int32) + (i0 &&& (3 : Int32)))), .val (.int (own_al i1)), .val (.int (own_al i2)), .val (.int (own_al i3)), .val (.int (own_al i4)), .val (.ref b_5), .val (.ref b_7), .val (.ref b_5)] [(.int (nar .char (own_al i1)))]))
    refine OGo.by (fun _ k => XS.iload X17.here hx rfl (hb hby at_77) rfl k) ?_
    show OGo p e below _ (T17.setTop (mkF m 79 #[.val (.int i0), .val (.int i1), .val (.int i2), .val (.int i3), .val (.int i4), .val (.int ((1 : Int32) + (i0 &&& (3 : Int32)))), .val (.int (own_al i1)), .val (.int (own_al i2)), .val (.int (own_al i3)), .val (.int (own_al i4)), .val (.ref b_5), .val (.ref b_7), .val (.ref b_5)] [(.int (own_al i1)), (.int (nar .char (own_al i1)))]))
    refine OGo.by (fun _ k => XS.icmpNo X17.here hx rfl (hb hby at_79) rfl (teq (own_al_ok i1).2.1).2 k) ?_
    show OGo p e below _ (T17.setTop (mkF m 82 #[.val (.int i0), .val (.int i1), .val (.int i2), .val (.int i3), .val (.int i4), .val (.int ((1 : Int32) + (i0 &&& (3 : Int32)))), .val (.int (own_al i1)), .val (.int (own_al i2)), .val (.int (own_al i3)), .val (.int (own_al i4)), .val (.ref b_5), .val (.ref b_7), .val (.ref b_5)] []))
    refine OGo.by (fun _ k => XS.aload X17.here hx rfl (hb hby at_82) rfl rfl k) ?_
    show OGo p e below _ (T17.setTop (mkF m 84 #[.val (.int i0), .val (.int i1), .val (.int i2), .val (.int i3), .val (.int i4), .val (.int ((1 : Int32) + (i0 &&& (3 : Int32)))), .val (.int (own_al i1)), .val (.int (own_al i2)), .val (.int (own_al i3)), .val (.int (own_al i4)), .val (.ref b_5), .val (.ref b_7), .val (.ref b_5)] [(.ref b_5)]))
    refine OGo.by (fun _ k => XS.aload X17.here hx rfl (hb hby at_84) rfl rfl k) ?_
    show OGo p e below _ (T17.setTop (mkF m 86 #[.val (.int i0), .val (.int i1), .val (.int i2), .val (.int i3), .val (.int i4), .val (.int ((1 : Int32) + (i0 &&& (3 : Int32)))), .val (.int (own_al i1)), .val (.int (own_al i2)), .val (.int (own_al i3)), .val (.int (own_al i4)), .val (.ref b_5), .val (.ref b_7), .val (.ref b_5)] [(.ref b_5), (.ref b_5)]))
    obtain ⟨cq18, kq18, q18a, q18b, q18c⟩ := isOf hZ7 e17 f12
    obtain ⟨_, _, ⟨T18, L18, k18, n18⟩, -, X18, ⟨Lc18, hQ18, l18, y18, z18⟩, st18⟩ := X17.virtualBack hx (y := (⟨"java/lang/String", "equals", "(Ljava/lang/Object;)Z"⟩ : MethodName)) (z := (⟨"java/lang/String", "equals", "(Ljava/lang/Object;)Z"⟩ : MethodName)) hown7 (mvT hZ7 (hw _ (List.mem_of_getElem? (i := 104) rfl))) (mvT hZ7 (hw _ (List.mem_of_getElem? (i := 105) rfl))) (notFace_of_selects (args := #[]) (mvT hZ7 (hw _ (List.mem_of_getElem? (i := 107) rfl)))) (mvT hZ7 (hw _ (List.mem_of_getElem? (i := 107) rfl))) (mvT hZ7 (hw _ (List.mem_of_getElem? (i := 106) rfl))) (by decide) (backOf (W := 0) (rmSame l Z av0 hw [] b_5 T7.heap n0 (Nat.le_trans Z0 K7.1)) hZ7 (hw _ (List.mem_of_getElem? (i := 108) rfl)) (hw _ (List.mem_of_getElem? (i := 10) rfl)) (by decide) (by decide)) q18a q18c (g := (mkF m 86 #[.val (.int i0), .val (.int i1), .val (.int i2), .val (.int i3), .val (.int i4), .val (.int ((1 : Int32) + (i0 &&& (3 : Int32)))), .val (.int (own_al i1)), .val (.int (own_al i2)), .val (.int (own_al i3)), .val (.int (own_al i4)), .val (.ref b_5), .val (.ref b_7), .val (.ref b_5)] [(.ref b_5), (.ref b_5)])) rfl (by rw [hml]; rfl) (Steps.refl _) (argsL := [(.ref b_5)]) (rest := []) (lenOf own_pd10 rfl) rfl (by show 2 * 0 + _ ≤ _; exact Nat.le_of_eq rfl) (hb hby at_86) (fun _ _ => ⟨rfl, e17, (by decide : 6 + 0 ≤ _), (by decide : 27 + 0 ≤ _)⟩)
    dsimp only [Pt.U, Pt.locs, Pt.cells, Pt.slots] at X18 l18 y18 z18 st18 hQ18
    subst l18 y18 z18
    obtain ⟨rfl, N18q, e18⟩ := hQ18
    have N18 := Fr.app N17 N18q
    refine OGo.of st18 ?_
    show OGo p e below _ (T18.setTop (mkF m 89 #[.val (.int i0), .val (.int i1), .val (.int i2), .val (.int i3), .val (.int i4), .val (.int ((1 : Int32) + (i0 &&& (3 : Int32)))), .val (.int (own_al i1)), .val (.int (own_al i2)), .val (.int (own_al i3)), .val (.int (own_al i4)), .val (.ref b_5), .val (.ref b_7), .val (.ref b_5)] [(.int (1 : Int32))]))
    refine OGo.by (fun _ k => XS.ifNo X18.here hx rfl (hb hby at_89) rfl ((if0 _ _).trans (feq (by decide : ¬ ((1 : Int32) = (0 : Int32)))).1) k) ?_
    show OGo p e below _ (T18.setTop (mkF m 92 #[.val (.int i0), .val (.int i1), .val (.int i2), .val (.int i3), .val (.int i4), .val (.int ((1 : Int32) + (i0 &&& (3 : Int32)))), .val (.int (own_al i1)), .val (.int (own_al i2)), .val (.int (own_al i3)), .val (.int (own_al i4)), .val (.ref b_5), .val (.ref b_7), .val (.ref b_5)] []))
    refine OGo.by (fun _ k => XS.iconst X18.here hx rfl (hb hby at_92) k) ?_
    show OGo p e below _ (T18.setTop (mkF m 93 #[.val (.int i0), .val (.int i1), .val (.int i2), .val (.int i3), .val (.int i4), .val (.int ((1 : Int32) + (i0 &&& (3 : Int32)))), .val (.int (own_al i1)), .val (.int (own_al i2)), .val (.int (own_al i3)), .val (.int (own_al i4)), .val (.ref b_5), .val (.ref b_7), .val (.ref b_5)] [(.int (1 : Int32))]))
    refine OGo.by (fun _ k => XS.goto X18.here hx rfl (pc0 := 93) (pc' := 97) rfl (hb hby at_93) (by decide) (by decide) k) ?_
    show OGo p e below _ (T18.setTop (mkF m 97 #[.val (.int i0), .val (.int i1), .val (.int i2), .val (.int i3), .val (.int i4), .val (.int ((1 : Int32) + (i0 &&& (3 : Int32)))), .val (.int (own_al i1)), .val (.int (own_al i2)), .val (.int (own_al i3)), .val (.int (own_al i4)), .val (.ref b_5), .val (.ref b_7), .val (.ref b_5)] [(.int (1 : Int32))]))
    obtain ⟨fs, hr, hrun, hended, hRE⟩ := Stand.leaveW (s := s) (vm₁ := T7.vm) X18 hS7 (by rw [e18]; exact (Nat.le_refl T7.heap.size)) (v := some (.int (1 : Int32))) (fun h => by rw [Bd.returns] at h; cases h)
    refine OGo.ret (retN X18 hx (t := .boolean) Bd.returns (by simp) (hb hby at_97) hr) hrun hended ⟨_, _, rfl, ?_, hRE.1, hRE.2.1, hRE.2.2.1, hRE.2.2.2.mono (by decide) (by decide)⟩
    show Q_rm0 Z i0 i1 i2 i3 i4 cz fm h0 n0 _ T18.heap _
    rw [e18]
    exact ⟨rfl, N18⟩
  · obtain ⟨_, _, ⟨T19, L19, k19, n19⟩, -, X19, ⟨Lc19, hQ19, l19, y19, z19⟩, st19⟩ := Jvm.LawKit.callS X4 hx (y := (⟨"com/example/trusty_lock/trustylock/LockNameOfPinLaw", "make", "(ICCCC)Ljava/lang/String;"⟩ : MethodName)) hown (mvT hZ (hw _ (List.mem_of_getElem? (i := 5) rfl))) (mvT hZ (hw _ (List.mem_of_getElem? (i := 6) rfl))) (mvT hZ (hw _ (List.mem_of_getElem? (i := 2) rfl))) (mvT hZ (hw _ (List.mem_of_getElem? (i := 7) rfl))) (by decide) (backOf (W := 0) (rmMk2 l Z av0 hw [] ((1 : Int32) + (i0 &&& (3 : Int32))) (own_al i1) (own_al i2) (own_al i3) (own_al i4) cz h0 n0 Z0 hf (own_al_ok i1).2.1 (own_al_ok i1).1 (own_al_ok i2).2.1 (own_al_ok i2).1 (own_al_ok i3).2.1 (own_al_ok i3).1 (own_al_ok i4).2.1 (own_al_ok i4).1 O0 S1 hcz) hZ (hw _ (List.mem_of_getElem? (i := 7) rfl)) (hw _ (List.mem_of_getElem? (i := 2) rfl)) (by decide) (by decide)) (g := (mkF m 42 #[.val (.int i0), .val (.int i1), .val (.int i2), .val (.int i3), .val (.int i4), .val (.int ((1 : Int32) + (i0 &&& (3 : Int32)))), .val (.int (own_al i1)), .val (.int (own_al i2)), .val (.int (own_al i3)), .val (.int (own_al i4)), .unset, .unset, .unset] [(.int (own_al i4)), (.int (own_al i3)), (.int (own_al i2)), (.int (own_al i1)), (.int ((1 : Int32) + (i0 &&& (3 : Int32))))])) rfl (by rw [hml]; rfl) (argsL := [(.int ((1 : Int32) + (i0 &&& (3 : Int32)))), (.int (own_al i1)), (.int (own_al i2)), (.int (own_al i3)), (.int (own_al i4))]) (rest := []) (lenOf own_pd7 rfl) rfl (by show 2 * 0 + _ ≤ _; exact Nat.le_of_eq rfl) (hb hby at_42) (fun _ _ => ⟨rfl, e4, (by decide : 0 + 3 ≤ _), (by decide : 0 + 8 ≤ _)⟩)
    dsimp only [Pt.U, Pt.locs, Pt.cells, Pt.slots] at X19 l19 y19 z19 st19 hQ19
    subst l19 y19 z19
    obtain ⟨b_19, t_19, kb_19, rfl, N19q, Kc19, G19_0, G19_1, G19_2, G19_3, G19_4, G19_5, G19_6, G19_7, G19_8⟩ := hQ19
    have N19 := Fr.app N4 N19q
    have g_b_19 : n0 ≤ b_19 := Nat.le_trans Z0 G19_0
    have sz_b_19 : h0.size ≤ b_19 := Nat.le_trans (Nat.le_refl _) G19_0
    have g_t_19 : n0 ≤ t_19 := Nat.le_trans Z0 G19_2
    have sz_t_19 : h0.size ≤ t_19 := Nat.le_trans (Nat.le_refl _) G19_2
    have K19 : Keep h0 T19.heap [] := ((Keep.refl h0 [])).trans Kc19 (fun x hx => nomatch hx)
    refine OGo.by st19 ?_
    show OGo p e below _ (T19.setTop (mkF m 45 #[.val (.int i0), .val (.int i1), .val (.int i2), .val (.int i3), .val (.int i4), .val (.int ((1 : Int32) + (i0 &&& (3 : Int32)))), .val (.int (own_al i1)), .val (.int (own_al i2)), .val (.int (own_al i3)), .val (.int (own_al i4)), .unset, .unset, .unset] [(.ref b_19)]))
    have hp19 : ∀ c ∈ ([(nar .char (own_al i1)), (nar .char (own_al i2))] : List Int32), ¬ c < 0 ∧ ¬ (255 : Int32) < c := by
      intro c hc; simp only [List.mem_cons, List.not_mem_nil, or_false] at hc
      rcases hc with rfl | rfl <;> exact own_nar (own_al_ok _).2.1 (own_al_ok _).1
    have ha19 : ∀ c ∈ ([(nar .char (own_al i1)), (nar .char (own_al i2))] : List Int32), own_isA c = (1 : Int32) := by
      intro c hc; simp only [List.mem_cons, List.not_mem_nil, or_false] at hc
      rcases hc with rfl | rfl <;> exact (own_al_ok _).2.2
    refine OGo.by (fun _ k => XS.astore X19.here hx rfl (hb hby at_45) rfl rfl (l' := #[.val (.int i0), .val (.int i1), .val (.int i2), .val (.int i3), .val (.int i4), .val (.int ((1 : Int32) + (i0 &&& (3 : Int32)))), .val (.int (own_al i1)), .val (.int (own_al i2)), .val (.int (own_al i3)), .val (.int (own_al i4)), .val (.ref b_19), .unset, .unset]) rfl k) ?_
    show OGo p e below _ (T19.setTop (mkF m 47 #[.val (.int i0), .val (.int i1), .val (.int i2), .val (.int i3), .val (.int i4), .val (.int ((1 : Int32) + (i0 &&& (3 : Int32)))), .val (.int (own_al i1)), .val (.int (own_al i2)), .val (.int (own_al i3)), .val (.int (own_al i4)), .val (.ref b_19), .unset, .unset] []))
    refine OGo.by (fun _ k => XS.aload X19.here hx rfl (hb hby at_47) rfl rfl k) ?_
    show OGo p e below _ (T19.setTop (mkF m 49 #[.val (.int i0), .val (.int i1), .val (.int i2), .val (.int i3), .val (.int i4), .val (.int ((1 : Int32) + (i0 &&& (3 : Int32)))), .val (.int (own_al i1)), .val (.int (own_al i2)), .val (.int (own_al i3)), .val (.int (own_al i4)), .val (.ref b_19), .unset, .unset] [(.ref b_19)]))
    have hcd20 : StrChars.Road.CodA ([(nar .char (own_al i1)), (nar .char (own_al i2))] : List Int32) 0 (2 : Int32) ((([(nar .char (own_al i1)), (nar .char (own_al i2))] : List Int32).map (fun c => c.toInt8.toInt32)).map Value.int) := StrChars.Road.codOf (n := 2) rfl (fun c hc => (hp19 c hc).2)
    have hbd20 : ∀ c ∈ ([(nar .char (own_al i1)), (nar .char (own_al i2))] : List Int32), ¬ c < 0 ∧ ¬ (65535 : Int32) < c := own_up _ hp19
    have f22 : Old Z n0 T19.heap := (O0.keep Kc19 all0)
    obtain ⟨_, _, ⟨T21, L21, k21, n21⟩, -, Xw21, hs21, hg21, ⟨Lc21, hQ21, l21, y21, z21⟩, st21⟩ := callSS X19 hx (y := (⟨"com/example/trusty_lock/trustylock/LockName", "of", "(Ljava/lang/String;)Lcom/example/trusty_lock/trustylock/LockName;"⟩ : MethodName)) hown (mvT hZ (hw _ (List.mem_of_getElem? (i := 38) rfl))) (mvT hZ (hw _ (List.mem_of_getElem? (i := 39) rfl))) (mvT hZ (hw _ (List.mem_of_getElem? (i := 40) rfl))) (mvT hZ (hw _ (List.mem_of_getElem? (i := 41) rfl))) (by decide) (backOfS (W := 0) (rmOf l Z av0 hw [] b_19 t_19 kb_19 ([(nar .char (own_al i1)), (nar .char (own_al i2))] : List Int32) (2 : Int32) cz fm T19.heap n0 (Nat.le_trans Z0 K19.1) G19_5 G19_7 G19_6 G19_8 hcd20 hbd20 (Nat.le_of_ble_eq_true rfl) (Nat.le_of_ble_eq_true rfl) ha19 f22 S1 hcz S2 fm_isref) hZ (hw _ (List.mem_of_getElem? (i := 41) rfl)) (hw _ (List.mem_of_getElem? (i := 40) rfl)) (by decide) (by decide)) (g := (mkF m 49 #[.val (.int i0), .val (.int i1), .val (.int i2), .val (.int i3), .val (.int i4), .val (.int ((1 : Int32) + (i0 &&& (3 : Int32)))), .val (.int (own_al i1)), .val (.int (own_al i2)), .val (.int (own_al i3)), .val (.int (own_al i4)), .val (.ref b_19), .unset, .unset] [(.ref b_19)])) rfl (by rw [hml]; rfl) (argsL := [(.ref b_19)]) (rest := []) (lenOf own_pd8 rfl) rfl (by show 2 * 0 + _ ≤ _; exact Nat.le_of_eq rfl) (hb hby at_49) (fun _ _ => ⟨rfl, rfl, (by decide : 3 + 3 ≤ _), (by decide : 8 + 21 ≤ _)⟩)
    dsimp only [Pt.U, Pt.locs, Pt.cells, Pt.slots] at Xw21 hs21 hg21 l21 y21 z21 st21 hQ21
    subst l21 y21 z21
    have f23 : 0 ≤ T19.heap.size := (Nat.le_trans (Nat.zero_le _) Kc19.1)
    obtain ⟨X21, hS21, hZ21, hown21⟩ := rebS (s := s) (vm0 := s.vm) hS0 (n1 := T19.heap.size) (by exact f23) Xw21 hs21 hg21 hZ hown
    obtain ⟨b_21, rfl, N21q, Kc21, G21_0, G21_1, G21_2, G21_3⟩ := hQ21
    have N21 := Fr.app N19 N21q
    have ne_b_19_b_21 : b_19 ≠ b_21 := Nat.ne_of_lt (Nat.lt_of_lt_of_le G19_5.lt G21_0)
    have ne_t_19_b_21 : t_19 ≠ b_21 := Nat.ne_of_lt (Nat.lt_of_lt_of_le G19_8.lt G21_0)
    have g_b_21 : n0 ≤ b_21 := Nat.le_trans (Nat.le_trans Z0 K19.1) G21_0
    have sz_b_21 : h0.size ≤ b_21 := Nat.le_trans K19.1 G21_0
    have K21 : Keep h0 T21.heap [] := (K19).trans Kc21 (fun x hx => nomatch hx)
    refine OGo.of st21 ?_
    show OGo p e below _ (T21.setTop (mkF m 52 #[.val (.int i0), .val (.int i1), .val (.int i2), .val (.int i3), .val (.int i4), .val (.int ((1 : Int32) + (i0 &&& (3 : Int32)))), .val (.int (own_al i1)), .val (.int (own_al i2)), .val (.int (own_al i3)), .val (.int (own_al i4)), .val (.ref b_19), .unset, .unset] [(.ref b_21)]))
    refine OGo.by (fun _ k => XS.astore X21.here hx rfl (hb hby at_52) rfl rfl (l' := #[.val (.int i0), .val (.int i1), .val (.int i2), .val (.int i3), .val (.int i4), .val (.int ((1 : Int32) + (i0 &&& (3 : Int32)))), .val (.int (own_al i1)), .val (.int (own_al i2)), .val (.int (own_al i3)), .val (.int (own_al i4)), .val (.ref b_19), .val (.ref b_21), .unset]) rfl k) ?_
    show OGo p e below _ (T21.setTop (mkF m 54 #[.val (.int i0), .val (.int i1), .val (.int i2), .val (.int i3), .val (.int i4), .val (.int ((1 : Int32) + (i0 &&& (3 : Int32)))), .val (.int (own_al i1)), .val (.int (own_al i2)), .val (.int (own_al i3)), .val (.int (own_al i4)), .val (.ref b_19), .val (.ref b_21), .unset] []))
    refine OGo.by (fun _ k => XS.aload X21.here hx rfl (hb hby at_54) rfl rfl k) ?_
    show OGo p e below _ (T21.setTop (mkF m 56 #[.val (.int i0), .val (.int i1), .val (.int i2), .val (.int i3), .val (.int i4), .val (.int ((1 : Int32) + (i0 &&& (3 : Int32)))), .val (.int (own_al i1)), .val (.int (own_al i2)), .val (.int (own_al i3)), .val (.int (own_al i4)), .val (.ref b_19), .val (.ref b_21), .unset] [(.ref b_21)]))
    obtain ⟨cq24, kq24, q24a, q24b, q24c⟩ := isOf hZ21 rfl G21_2
    obtain ⟨_, _, ⟨T24, L24, k24, n24⟩, -, X24, ⟨Lc24, hQ24, l24, y24, z24⟩, st24⟩ := X21.virtualBack hx (y := (⟨"com/example/trusty_lock/trustylock/LockName", "toString", "()Ljava/lang/String;"⟩ : MethodName)) (z := (⟨"com/example/trusty_lock/trustylock/LockName", "toString", "()Ljava/lang/String;"⟩ : MethodName)) hown21 (mvT hZ21 (hw _ (List.mem_of_getElem? (i := 97) rfl))) (mvT hZ21 (hw _ (List.mem_of_getElem? (i := 98) rfl))) (notFace_of_selects (args := #[]) (mvT hZ21 (hw _ (List.mem_of_getElem? (i := 100) rfl)))) (mvT hZ21 (hw _ (List.mem_of_getElem? (i := 100) rfl))) (mvT hZ21 (hw _ (List.mem_of_getElem? (i := 99) rfl))) (by decide) (backOf (W := 0) (rm21 l Z av0 hw [] b_21 b_19 T21.heap n0 (Nat.le_trans Z0 K21.1) G21_3) hZ21 (hw _ (List.mem_of_getElem? (i := 101) rfl)) (hw _ (List.mem_of_getElem? (i := 40) rfl)) (by decide) (by decide)) q24a q24c (g := (mkF m 56 #[.val (.int i0), .val (.int i1), .val (.int i2), .val (.int i3), .val (.int i4), .val (.int ((1 : Int32) + (i0 &&& (3 : Int32)))), .val (.int (own_al i1)), .val (.int (own_al i2)), .val (.int (own_al i3)), .val (.int (own_al i4)), .val (.ref b_19), .val (.ref b_21), .unset] [(.ref b_21)])) rfl (by rw [hml]; rfl) (Steps.refl _) (argsL := []) (rest := []) (lenOf own_pd9 rfl) rfl (by show 2 * 0 + _ ≤ _; exact Nat.le_of_eq rfl) (hb hby at_56) (fun _ _ => ⟨rfl, rfl, (by decide : 6 + 0 ≤ _), (by decide : 29 + 0 ≤ _)⟩)
    dsimp only [Pt.U, Pt.locs, Pt.cells, Pt.slots] at X24 l24 y24 z24 st24 hQ24
    subst l24 y24 z24
    obtain ⟨rfl, N24q, e24⟩ := hQ24
    have N24 := Fr.app N21 N24q
    refine OGo.of st24 ?_
    show OGo p e below _ (T24.setTop (mkF m 59 #[.val (.int i0), .val (.int i1), .val (.int i2), .val (.int i3), .val (.int i4), .val (.int ((1 : Int32) + (i0 &&& (3 : Int32)))), .val (.int (own_al i1)), .val (.int (own_al i2)), .val (.int (own_al i3)), .val (.int (own_al i4)), .val (.ref b_19), .val (.ref b_21), .unset] [(.ref b_19)]))
    refine OGo.by (fun _ k => XS.astore X24.here hx rfl (hb hby at_59) rfl rfl (l' := #[.val (.int i0), .val (.int i1), .val (.int i2), .val (.int i3), .val (.int i4), .val (.int ((1 : Int32) + (i0 &&& (3 : Int32)))), .val (.int (own_al i1)), .val (.int (own_al i2)), .val (.int (own_al i3)), .val (.int (own_al i4)), .val (.ref b_19), .val (.ref b_21), .val (.ref b_19)]) rfl k) ?_
    show OGo p e below _ (T24.setTop (mkF m 61 #[.val (.int i0), .val (.int i1), .val (.int i2), .val (.int i3), .val (.int i4), .val (.int ((1 : Int32) + (i0 &&& (3 : Int32)))), .val (.int (own_al i1)), .val (.int (own_al i2)), .val (.int (own_al i3)), .val (.int (own_al i4)), .val (.ref b_19), .val (.ref b_21), .val (.ref b_19)] []))
    refine OGo.by (fun _ k => XS.aload X24.here hx rfl (hb hby at_61) rfl rfl k) ?_
    show OGo p e below _ (T24.setTop (mkF m 63 #[.val (.int i0), .val (.int i1), .val (.int i2), .val (.int i3), .val (.int i4), .val (.int ((1 : Int32) + (i0 &&& (3 : Int32)))), .val (.int (own_al i1)), .val (.int (own_al i2)), .val (.int (own_al i3)), .val (.int (own_al i4)), .val (.ref b_19), .val (.ref b_21), .val (.ref b_19)] [(.ref b_19)]))
    have f26 : Exa Z T21.heap b_19 "java/lang/String" := (G19_5.keep Kc21)
    have f27 : Fld Z T21.heap b_19 "java/lang/String" "value" "[B" (.ref t_19) := (G19_7.keep Kc21 nin0)
    have f28 : Fld Z T21.heap b_19 "java/lang/String" "coder" "B" (.int (0 : Int32)) := (G19_6.keep Kc21 nin0)
    have f29 : Arv Z T21.heap t_19 kb_19 .byte (2 : Int32) ((([(nar .char (own_al i1)), (nar .char (own_al i2))] : List Int32).map (fun c => c.toInt8.toInt32)).map Value.int) (.int 0) := (G19_8.keep Kc21 nin0)
    have f30 : Old Z n0 T21.heap := (f22.keep Kc21 all0)
    have hsw25 : ∀ d ∈ StrChars.Road.wordsLen, d.before av0 Z = true := fun d hd => hw d ((by decide +kernel : ∀ d ∈ StrChars.Road.wordsLen, d ∈ tables_1) d hd)
    obtain ⟨cq25, kq25, q25a, q25b, q25c⟩ := isOf hZ21 e24 f26
    obtain ⟨v25, _, ⟨T25, L25, k25, n25⟩, -, X25, ⟨Lc25, hQ25, l25, y25, z25⟩, st25⟩ := X24.virtualBack hx (y := (⟨"java/lang/String", "length", "()I"⟩ : MethodName)) (z := (⟨"java/lang/String", "length", "()I"⟩ : MethodName)) hown21 (mvT hZ21 (hw _ (List.mem_of_getElem? (i := 102) rfl))) (mvT hZ21 (hw _ (List.mem_of_getElem? (i := 55) rfl))) (notFace_of_selects (args := #[]) (mvT hZ21 (hw _ (List.mem_of_getElem? (i := 57) rfl)))) (mvT hZ21 (hw _ (List.mem_of_getElem? (i := 57) rfl))) (mvT hZ21 (hw _ (List.mem_of_getElem? (i := 56) rfl))) (by decide) (StrChars.Road.lenW (W := 0) hZ21 hsw25 (kI := 4) (hw _ (List.mem_of_getElem? (i := 9) rfl)) f26 f27 f28 f29 hcd20 hbd20 (S1.ext f30.2) hcz (Nat.le_of_ble_eq_true rfl) (by decide) (by decide)) q25a q25c (g := (mkF m 63 #[.val (.int i0), .val (.int i1), .val (.int i2), .val (.int i3), .val (.int i4), .val (.int ((1 : Int32) + (i0 &&& (3 : Int32)))), .val (.int (own_al i1)), .val (.int (own_al i2)), .val (.int (own_al i3)), .val (.int (own_al i4)), .val (.ref b_19), .val (.ref b_21), .val (.ref b_19)] [(.ref b_19)])) rfl (by rw [hml]; rfl) (Steps.refl _) (argsL := []) (rest := []) (lenOf own_pd3 rfl) rfl (by show 2 * 0 + _ ≤ _; exact Nat.le_of_eq rfl) (hb hby at_63) (fun _ _ => ⟨rfl, e24, (by decide : 6 + 0 ≤ _), (by decide : 29 + 0 ≤ _)⟩)
    dsimp only [Pt.U, Pt.locs, Pt.cells, Pt.slots] at X25 l25 y25 z25 st25 hQ25
    subst l25 y25 z25
    obtain ⟨rfl, rfl, e25⟩ := hQ25
    have N25 := Fr.app N24 (Fr.nil n0)
    refine OGo.of st25 ?_
    show OGo p e below _ (T25.setTop (mkF m 66 #[.val (.int i0), .val (.int i1), .val (.int i2), .val (.int i3), .val (.int i4), .val (.int ((1 : Int32) + (i0 &&& (3 : Int32)))), .val (.int (own_al i1)), .val (.int (own_al i2)), .val (.int (own_al i3)), .val (.int (own_al i4)), .val (.ref b_19), .val (.ref b_21), .val (.ref b_19)] [(.int (2 : Int32))]))
    refine OGo.by (fun _ k => XS.iload X25.here hx rfl (hb hby at_66) rfl k) ?_
    show OGo p e below _ (T25.setTop (mkF m 68 #[.val (.int i0), .val (.int i1), .val (.int i2), .val (.int i3), .val (.int i4), .val (.int ((1 : Int32) + (i0 &&& (3 : Int32)))), .val (.int (own_al i1)), .val (.int (own_al i2)), .val (.int (own_al i3)), .val (.int (own_al i4)), .val (.ref b_19), .val (.ref b_21), .val (.ref b_19)] [(.int ((1 : Int32) + (i0 &&& (3 : Int32)))), (.int (2 : Int32))]))
    refine OGo.by (fun _ k => XS.icmpNo X25.here hx rfl (hb hby at_68) rfl (teq hf.symm).2 k) ?_
    show OGo p e below _ (T25.setTop (mkF m 71 #[.val (.int i0), .val (.int i1), .val (.int i2), .val (.int i3), .val (.int i4), .val (.int ((1 : Int32) + (i0 &&& (3 : Int32)))), .val (.int (own_al i1)), .val (.int (own_al i2)), .val (.int (own_al i3)), .val (.int (own_al i4)), .val (.ref b_19), .val (.ref b_21), .val (.ref b_19)] []))
    refine OGo.by (fun _ k => XS.aload X25.here hx rfl (hb hby at_71) rfl rfl k) ?_
    show OGo p e below _ (T25.setTop (mkF m 73 #[.val (.int i0), .val (.int i1), .val (.int i2), .val (.int i3), .val (.int i4), .val (.int ((1 : Int32) + (i0 &&& (3 : Int32)))), .val (.int (own_al i1)), .val (.int (own_al i2)), .val (.int (own_al i3)), .val (.int (own_al i4)), .val (.ref b_19), .val (.ref b_21), .val (.ref b_19)] [(.ref b_19)]))
    refine OGo.by (fun _ k => XS.iconst X25.here hx rfl (hb hby at_73) k) ?_
    show OGo p e below _ (T25.setTop (mkF m 74 #[.val (.int i0), .val (.int i1), .val (.int i2), .val (.int i3), .val (.int i4), .val (.int ((1 : Int32) + (i0 &&& (3 : Int32)))), .val (.int (own_al i1)), .val (.int (own_al i2)), .val (.int (own_al i3)), .val (.int (own_al i4)), .val (.ref b_19), .val (.ref b_21), .val (.ref b_19)] [(.int (0 : Int32)), (.ref b_19)]))
    have hsw31 : ∀ d ∈ StrChars.Road.wordsChN, d.before av0 Z = true := fun d hd => hw d ((by decide +kernel : ∀ d ∈ StrChars.Road.wordsChN, d ∈ tables_1) d hd)
    obtain ⟨cq31, kq31, q31a, q31b, q31c⟩ := isOf hZ21 e25 f26
    obtain ⟨v31, _, ⟨T31, L31, k31, n31⟩, -, X31, ⟨Lc31, hQ31, l31, y31, z31⟩, st31⟩ := X25.virtualBack hx (y := (⟨"java/lang/String", "charAt", "(I)C"⟩ : MethodName)) (z := (⟨"java/lang/String", "charAt", "(I)C"⟩ : MethodName)) hown21 (mvT hZ21 (hw _ (List.mem_of_getElem? (i := 103) rfl))) (mvT hZ21 (hw _ (List.mem_of_getElem? (i := 65) rfl))) (notFace_of_selects (args := #[]) (mvT hZ21 (hw _ (List.mem_of_getElem? (i := 67) rfl)))) (mvT hZ21 (hw _ (List.mem_of_getElem? (i := 67) rfl))) (mvT hZ21 (hw _ (List.mem_of_getElem? (i := 66) rfl))) (by decide) (StrChars.Road.chN (W := 0) hZ21 hsw31 (kI := 4) (hw _ (List.mem_of_getElem? (i := 9) rfl)) f26 f27 f28 f29 hcd20 hbd20 (S1.ext f30.2) hcz (S2.ext f30.2) fm_isref (Nat.le_of_ble_eq_true rfl) (i := 0) (Nat.le_of_ble_eq_true rfl) (j := (0 : Int32)) rfl (by decide) (by decide)) q31a q31c (g := (mkF m 74 #[.val (.int i0), .val (.int i1), .val (.int i2), .val (.int i3), .val (.int i4), .val (.int ((1 : Int32) + (i0 &&& (3 : Int32)))), .val (.int (own_al i1)), .val (.int (own_al i2)), .val (.int (own_al i3)), .val (.int (own_al i4)), .val (.ref b_19), .val (.ref b_21), .val (.ref b_19)] [(.int (0 : Int32)), (.ref b_19)])) rfl (by rw [hml]; rfl) (Steps.refl _) (argsL := [(.int (0 : Int32))]) (rest := []) (lenOf own_pd5 rfl) rfl (by show 2 * 0 + _ ≤ _; exact Nat.le_of_eq rfl) (hb hby at_74) (fun _ _ => ⟨rfl, e25, (by decide : 6 + 0 ≤ _), (by decide : 29 + 0 ≤ _)⟩)
    dsimp only [Pt.U, Pt.locs, Pt.cells, Pt.slots] at X31 l31 y31 z31 st31 hQ31
    subst l31 y31 z31
    obtain ⟨rfl, rfl, e31⟩ := hQ31
    have N31 := Fr.app N25 (Fr.nil n0)
    refine OGo.of st31 ?_
    show OGo p e below _ (T31.setTop (mkF m 77 #[.val (.int i0), .val (.int i1), .val (.int i2), .val (.int i3), .val (.int i4), .val (.int ((1 : Int32) + (i0 &&& (3 : Int32)))), .val (.int (own_al i1)), .val (.int (own_al i2)), .val (.int (own_al i3)), .val (.int (own_al i4)), .val (.ref b_19), .val (.ref b_21), .val (.ref b_19)] [(.int (nar .char (own_al i1)))]))
    refine OGo.by (fun _ k => XS.iload X31.here hx rfl (hb hby at_77) rfl k) ?_
    show OGo p e below _ (T31.setTop (mkF m 79 #[.val (.int i0), .val (.int i1), .val (.int i2), .val (.int i3), .val (.int i4), .val (.int ((1 : Int32) + (i0 &&& (3 : Int32)))), .val (.int (own_al i1)), .val (.int (own_al i2)), .val (.int (own_al i3)), .val (.int (own_al i4)), .val (.ref b_19), .val (.ref b_21), .val (.ref b_19)] [(.int (own_al i1)), (.int (nar .char (own_al i1)))]))
    refine OGo.by (fun _ k => XS.icmpNo X31.here hx rfl (hb hby at_79) rfl (teq (own_al_ok i1).2.1).2 k) ?_
    show OGo p e below _ (T31.setTop (mkF m 82 #[.val (.int i0), .val (.int i1), .val (.int i2), .val (.int i3), .val (.int i4), .val (.int ((1 : Int32) + (i0 &&& (3 : Int32)))), .val (.int (own_al i1)), .val (.int (own_al i2)), .val (.int (own_al i3)), .val (.int (own_al i4)), .val (.ref b_19), .val (.ref b_21), .val (.ref b_19)] []))
    refine OGo.by (fun _ k => XS.aload X31.here hx rfl (hb hby at_82) rfl rfl k) ?_
    show OGo p e below _ (T31.setTop (mkF m 84 #[.val (.int i0), .val (.int i1), .val (.int i2), .val (.int i3), .val (.int i4), .val (.int ((1 : Int32) + (i0 &&& (3 : Int32)))), .val (.int (own_al i1)), .val (.int (own_al i2)), .val (.int (own_al i3)), .val (.int (own_al i4)), .val (.ref b_19), .val (.ref b_21), .val (.ref b_19)] [(.ref b_19)]))
    refine OGo.by (fun _ k => XS.aload X31.here hx rfl (hb hby at_84) rfl rfl k) ?_
    show OGo p e below _ (T31.setTop (mkF m 86 #[.val (.int i0), .val (.int i1), .val (.int i2), .val (.int i3), .val (.int i4), .val (.int ((1 : Int32) + (i0 &&& (3 : Int32)))), .val (.int (own_al i1)), .val (.int (own_al i2)), .val (.int (own_al i3)), .val (.int (own_al i4)), .val (.ref b_19), .val (.ref b_21), .val (.ref b_19)] [(.ref b_19), (.ref b_19)]))
    obtain ⟨cq32, kq32, q32a, q32b, q32c⟩ := isOf hZ21 e31 f26
    obtain ⟨_, _, ⟨T32, L32, k32, n32⟩, -, X32, ⟨Lc32, hQ32, l32, y32, z32⟩, st32⟩ := X31.virtualBack hx (y := (⟨"java/lang/String", "equals", "(Ljava/lang/Object;)Z"⟩ : MethodName)) (z := (⟨"java/lang/String", "equals", "(Ljava/lang/Object;)Z"⟩ : MethodName)) hown21 (mvT hZ21 (hw _ (List.mem_of_getElem? (i := 104) rfl))) (mvT hZ21 (hw _ (List.mem_of_getElem? (i := 105) rfl))) (notFace_of_selects (args := #[]) (mvT hZ21 (hw _ (List.mem_of_getElem? (i := 107) rfl)))) (mvT hZ21 (hw _ (List.mem_of_getElem? (i := 107) rfl))) (mvT hZ21 (hw _ (List.mem_of_getElem? (i := 106) rfl))) (by decide) (backOf (W := 0) (rmSame l Z av0 hw [] b_19 T21.heap n0 (Nat.le_trans Z0 K21.1)) hZ21 (hw _ (List.mem_of_getElem? (i := 108) rfl)) (hw _ (List.mem_of_getElem? (i := 10) rfl)) (by decide) (by decide)) q32a q32c (g := (mkF m 86 #[.val (.int i0), .val (.int i1), .val (.int i2), .val (.int i3), .val (.int i4), .val (.int ((1 : Int32) + (i0 &&& (3 : Int32)))), .val (.int (own_al i1)), .val (.int (own_al i2)), .val (.int (own_al i3)), .val (.int (own_al i4)), .val (.ref b_19), .val (.ref b_21), .val (.ref b_19)] [(.ref b_19), (.ref b_19)])) rfl (by rw [hml]; rfl) (Steps.refl _) (argsL := [(.ref b_19)]) (rest := []) (lenOf own_pd10 rfl) rfl (by show 2 * 0 + _ ≤ _; exact Nat.le_of_eq rfl) (hb hby at_86) (fun _ _ => ⟨rfl, e31, (by decide : 6 + 0 ≤ _), (by decide : 29 + 0 ≤ _)⟩)
    dsimp only [Pt.U, Pt.locs, Pt.cells, Pt.slots] at X32 l32 y32 z32 st32 hQ32
    subst l32 y32 z32
    obtain ⟨rfl, N32q, e32⟩ := hQ32
    have N32 := Fr.app N31 N32q
    refine OGo.of st32 ?_
    show OGo p e below _ (T32.setTop (mkF m 89 #[.val (.int i0), .val (.int i1), .val (.int i2), .val (.int i3), .val (.int i4), .val (.int ((1 : Int32) + (i0 &&& (3 : Int32)))), .val (.int (own_al i1)), .val (.int (own_al i2)), .val (.int (own_al i3)), .val (.int (own_al i4)), .val (.ref b_19), .val (.ref b_21), .val (.ref b_19)] [(.int (1 : Int32))]))
    refine OGo.by (fun _ k => XS.ifNo X32.here hx rfl (hb hby at_89) rfl ((if0 _ _).trans (feq (by decide : ¬ ((1 : Int32) = (0 : Int32)))).1) k) ?_
    show OGo p e below _ (T32.setTop (mkF m 92 #[.val (.int i0), .val (.int i1), .val (.int i2), .val (.int i3), .val (.int i4), .val (.int ((1 : Int32) + (i0 &&& (3 : Int32)))), .val (.int (own_al i1)), .val (.int (own_al i2)), .val (.int (own_al i3)), .val (.int (own_al i4)), .val (.ref b_19), .val (.ref b_21), .val (.ref b_19)] []))
    refine OGo.by (fun _ k => XS.iconst X32.here hx rfl (hb hby at_92) k) ?_
    show OGo p e below _ (T32.setTop (mkF m 93 #[.val (.int i0), .val (.int i1), .val (.int i2), .val (.int i3), .val (.int i4), .val (.int ((1 : Int32) + (i0 &&& (3 : Int32)))), .val (.int (own_al i1)), .val (.int (own_al i2)), .val (.int (own_al i3)), .val (.int (own_al i4)), .val (.ref b_19), .val (.ref b_21), .val (.ref b_19)] [(.int (1 : Int32))]))
    refine OGo.by (fun _ k => XS.goto X32.here hx rfl (pc0 := 93) (pc' := 97) rfl (hb hby at_93) (by decide) (by decide) k) ?_
    show OGo p e below _ (T32.setTop (mkF m 97 #[.val (.int i0), .val (.int i1), .val (.int i2), .val (.int i3), .val (.int i4), .val (.int ((1 : Int32) + (i0 &&& (3 : Int32)))), .val (.int (own_al i1)), .val (.int (own_al i2)), .val (.int (own_al i3)), .val (.int (own_al i4)), .val (.ref b_19), .val (.ref b_21), .val (.ref b_19)] [(.int (1 : Int32))]))
    obtain ⟨fs, hr, hrun, hended, hRE⟩ := Stand.leaveW (s := s) (vm₁ := T21.vm) X32 hS21 (by rw [e32]; exact (Nat.le_refl T21.heap.size)) (v := some (.int (1 : Int32))) (fun h => by rw [Bd.returns] at h; cases h)
    refine OGo.ret (retN X32 hx (t := .boolean) Bd.returns (by simp) (hb hby at_97) hr) hrun hended ⟨_, _, rfl, ?_, hRE.1, hRE.2.1, hRE.2.2.1, hRE.2.2.2.mono (by decide) (by decide)⟩
    show Q_rm0 Z i0 i1 i2 i3 i4 cz fm h0 n0 _ T32.heap _
    rw [e32]
    exact ⟨rfl, N32⟩
  · obtain ⟨_, _, ⟨T33, L33, k33, n33⟩, -, X33, ⟨Lc33, hQ33, l33, y33, z33⟩, st33⟩ := Jvm.LawKit.callS X4 hx (y := (⟨"com/example/trusty_lock/trustylock/LockNameOfPinLaw", "make", "(ICCCC)Ljava/lang/String;"⟩ : MethodName)) hown (mvT hZ (hw _ (List.mem_of_getElem? (i := 5) rfl))) (mvT hZ (hw _ (List.mem_of_getElem? (i := 6) rfl))) (mvT hZ (hw _ (List.mem_of_getElem? (i := 2) rfl))) (mvT hZ (hw _ (List.mem_of_getElem? (i := 7) rfl))) (by decide) (backOf (W := 0) (rmMk3 l Z av0 hw [] ((1 : Int32) + (i0 &&& (3 : Int32))) (own_al i1) (own_al i2) (own_al i3) (own_al i4) cz h0 n0 Z0 hf (own_al_ok i1).2.1 (own_al_ok i1).1 (own_al_ok i2).2.1 (own_al_ok i2).1 (own_al_ok i3).2.1 (own_al_ok i3).1 (own_al_ok i4).2.1 (own_al_ok i4).1 O0 S1 hcz) hZ (hw _ (List.mem_of_getElem? (i := 7) rfl)) (hw _ (List.mem_of_getElem? (i := 2) rfl)) (by decide) (by decide)) (g := (mkF m 42 #[.val (.int i0), .val (.int i1), .val (.int i2), .val (.int i3), .val (.int i4), .val (.int ((1 : Int32) + (i0 &&& (3 : Int32)))), .val (.int (own_al i1)), .val (.int (own_al i2)), .val (.int (own_al i3)), .val (.int (own_al i4)), .unset, .unset, .unset] [(.int (own_al i4)), (.int (own_al i3)), (.int (own_al i2)), (.int (own_al i1)), (.int ((1 : Int32) + (i0 &&& (3 : Int32))))])) rfl (by rw [hml]; rfl) (argsL := [(.int ((1 : Int32) + (i0 &&& (3 : Int32)))), (.int (own_al i1)), (.int (own_al i2)), (.int (own_al i3)), (.int (own_al i4))]) (rest := []) (lenOf own_pd7 rfl) rfl (by show 2 * 0 + _ ≤ _; exact Nat.le_of_eq rfl) (hb hby at_42) (fun _ _ => ⟨rfl, e4, (by decide : 0 + 3 ≤ _), (by decide : 0 + 10 ≤ _)⟩)
    dsimp only [Pt.U, Pt.locs, Pt.cells, Pt.slots] at X33 l33 y33 z33 st33 hQ33
    subst l33 y33 z33
    obtain ⟨b_33, t_33, kb_33, rfl, N33q, Kc33, G33_0, G33_1, G33_2, G33_3, G33_4, G33_5, G33_6, G33_7, G33_8⟩ := hQ33
    have N33 := Fr.app N4 N33q
    have g_b_33 : n0 ≤ b_33 := Nat.le_trans Z0 G33_0
    have sz_b_33 : h0.size ≤ b_33 := Nat.le_trans (Nat.le_refl _) G33_0
    have g_t_33 : n0 ≤ t_33 := Nat.le_trans Z0 G33_2
    have sz_t_33 : h0.size ≤ t_33 := Nat.le_trans (Nat.le_refl _) G33_2
    have K33 : Keep h0 T33.heap [] := ((Keep.refl h0 [])).trans Kc33 (fun x hx => nomatch hx)
    refine OGo.by st33 ?_
    show OGo p e below _ (T33.setTop (mkF m 45 #[.val (.int i0), .val (.int i1), .val (.int i2), .val (.int i3), .val (.int i4), .val (.int ((1 : Int32) + (i0 &&& (3 : Int32)))), .val (.int (own_al i1)), .val (.int (own_al i2)), .val (.int (own_al i3)), .val (.int (own_al i4)), .unset, .unset, .unset] [(.ref b_33)]))
    have hp33 : ∀ c ∈ ([(nar .char (own_al i1)), (nar .char (own_al i2)), (nar .char (own_al i3))] : List Int32), ¬ c < 0 ∧ ¬ (255 : Int32) < c := by
      intro c hc; simp only [List.mem_cons, List.not_mem_nil, or_false] at hc
      rcases hc with rfl | rfl | rfl <;> exact own_nar (own_al_ok _).2.1 (own_al_ok _).1
    have ha33 : ∀ c ∈ ([(nar .char (own_al i1)), (nar .char (own_al i2)), (nar .char (own_al i3))] : List Int32), own_isA c = (1 : Int32) := by
      intro c hc; simp only [List.mem_cons, List.not_mem_nil, or_false] at hc
      rcases hc with rfl | rfl | rfl <;> exact (own_al_ok _).2.2
    refine OGo.by (fun _ k => XS.astore X33.here hx rfl (hb hby at_45) rfl rfl (l' := #[.val (.int i0), .val (.int i1), .val (.int i2), .val (.int i3), .val (.int i4), .val (.int ((1 : Int32) + (i0 &&& (3 : Int32)))), .val (.int (own_al i1)), .val (.int (own_al i2)), .val (.int (own_al i3)), .val (.int (own_al i4)), .val (.ref b_33), .unset, .unset]) rfl k) ?_
    show OGo p e below _ (T33.setTop (mkF m 47 #[.val (.int i0), .val (.int i1), .val (.int i2), .val (.int i3), .val (.int i4), .val (.int ((1 : Int32) + (i0 &&& (3 : Int32)))), .val (.int (own_al i1)), .val (.int (own_al i2)), .val (.int (own_al i3)), .val (.int (own_al i4)), .val (.ref b_33), .unset, .unset] []))
    refine OGo.by (fun _ k => XS.aload X33.here hx rfl (hb hby at_47) rfl rfl k) ?_
    show OGo p e below _ (T33.setTop (mkF m 49 #[.val (.int i0), .val (.int i1), .val (.int i2), .val (.int i3), .val (.int i4), .val (.int ((1 : Int32) + (i0 &&& (3 : Int32)))), .val (.int (own_al i1)), .val (.int (own_al i2)), .val (.int (own_al i3)), .val (.int (own_al i4)), .val (.ref b_33), .unset, .unset] [(.ref b_33)]))
    have hcd34 : StrChars.Road.CodA ([(nar .char (own_al i1)), (nar .char (own_al i2)), (nar .char (own_al i3))] : List Int32) 0 (3 : Int32) ((([(nar .char (own_al i1)), (nar .char (own_al i2)), (nar .char (own_al i3))] : List Int32).map (fun c => c.toInt8.toInt32)).map Value.int) := StrChars.Road.codOf (n := 3) rfl (fun c hc => (hp33 c hc).2)
    have hbd34 : ∀ c ∈ ([(nar .char (own_al i1)), (nar .char (own_al i2)), (nar .char (own_al i3))] : List Int32), ¬ c < 0 ∧ ¬ (65535 : Int32) < c := own_up _ hp33
    have f36 : Old Z n0 T33.heap := (O0.keep Kc33 all0)
    obtain ⟨_, _, ⟨T35, L35, k35, n35⟩, -, Xw35, hs35, hg35, ⟨Lc35, hQ35, l35, y35, z35⟩, st35⟩ := callSS X33 hx (y := (⟨"com/example/trusty_lock/trustylock/LockName", "of", "(Ljava/lang/String;)Lcom/example/trusty_lock/trustylock/LockName;"⟩ : MethodName)) hown (mvT hZ (hw _ (List.mem_of_getElem? (i := 38) rfl))) (mvT hZ (hw _ (List.mem_of_getElem? (i := 39) rfl))) (mvT hZ (hw _ (List.mem_of_getElem? (i := 40) rfl))) (mvT hZ (hw _ (List.mem_of_getElem? (i := 41) rfl))) (by decide) (backOfS (W := 0) (rmOf l Z av0 hw [] b_33 t_33 kb_33 ([(nar .char (own_al i1)), (nar .char (own_al i2)), (nar .char (own_al i3))] : List Int32) (3 : Int32) cz fm T33.heap n0 (Nat.le_trans Z0 K33.1) G33_5 G33_7 G33_6 G33_8 hcd34 hbd34 (Nat.le_of_ble_eq_true rfl) (Nat.le_of_ble_eq_true rfl) ha33 f36 S1 hcz S2 fm_isref) hZ (hw _ (List.mem_of_getElem? (i := 41) rfl)) (hw _ (List.mem_of_getElem? (i := 40) rfl)) (by decide) (by decide)) (g := (mkF m 49 #[.val (.int i0), .val (.int i1), .val (.int i2), .val (.int i3), .val (.int i4), .val (.int ((1 : Int32) + (i0 &&& (3 : Int32)))), .val (.int (own_al i1)), .val (.int (own_al i2)), .val (.int (own_al i3)), .val (.int (own_al i4)), .val (.ref b_33), .unset, .unset] [(.ref b_33)])) rfl (by rw [hml]; rfl) (argsL := [(.ref b_33)]) (rest := []) (lenOf own_pd8 rfl) rfl (by show 2 * 0 + _ ≤ _; exact Nat.le_of_eq rfl) (hb hby at_49) (fun _ _ => ⟨rfl, rfl, (by decide : 3 + 3 ≤ _), (by decide : 10 + 21 ≤ _)⟩)
    dsimp only [Pt.U, Pt.locs, Pt.cells, Pt.slots] at Xw35 hs35 hg35 l35 y35 z35 st35 hQ35
    subst l35 y35 z35
    have f37 : 0 ≤ T33.heap.size := (Nat.le_trans (Nat.zero_le _) Kc33.1)
    obtain ⟨X35, hS35, hZ35, hown35⟩ := rebS (s := s) (vm0 := s.vm) hS0 (n1 := T33.heap.size) (by exact f37) Xw35 hs35 hg35 hZ hown
    obtain ⟨b_35, rfl, N35q, Kc35, G35_0, G35_1, G35_2, G35_3⟩ := hQ35
    have N35 := Fr.app N33 N35q
    have ne_b_33_b_35 : b_33 ≠ b_35 := Nat.ne_of_lt (Nat.lt_of_lt_of_le G33_5.lt G35_0)
    have ne_t_33_b_35 : t_33 ≠ b_35 := Nat.ne_of_lt (Nat.lt_of_lt_of_le G33_8.lt G35_0)
    have g_b_35 : n0 ≤ b_35 := Nat.le_trans (Nat.le_trans Z0 K33.1) G35_0
    have sz_b_35 : h0.size ≤ b_35 := Nat.le_trans K33.1 G35_0
    have K35 : Keep h0 T35.heap [] := (K33).trans Kc35 (fun x hx => nomatch hx)
    refine OGo.of st35 ?_
    show OGo p e below _ (T35.setTop (mkF m 52 #[.val (.int i0), .val (.int i1), .val (.int i2), .val (.int i3), .val (.int i4), .val (.int ((1 : Int32) + (i0 &&& (3 : Int32)))), .val (.int (own_al i1)), .val (.int (own_al i2)), .val (.int (own_al i3)), .val (.int (own_al i4)), .val (.ref b_33), .unset, .unset] [(.ref b_35)]))
    refine OGo.by (fun _ k => XS.astore X35.here hx rfl (hb hby at_52) rfl rfl (l' := #[.val (.int i0), .val (.int i1), .val (.int i2), .val (.int i3), .val (.int i4), .val (.int ((1 : Int32) + (i0 &&& (3 : Int32)))), .val (.int (own_al i1)), .val (.int (own_al i2)), .val (.int (own_al i3)), .val (.int (own_al i4)), .val (.ref b_33), .val (.ref b_35), .unset]) rfl k) ?_
    show OGo p e below _ (T35.setTop (mkF m 54 #[.val (.int i0), .val (.int i1), .val (.int i2), .val (.int i3), .val (.int i4), .val (.int ((1 : Int32) + (i0 &&& (3 : Int32)))), .val (.int (own_al i1)), .val (.int (own_al i2)), .val (.int (own_al i3)), .val (.int (own_al i4)), .val (.ref b_33), .val (.ref b_35), .unset] []))
    refine OGo.by (fun _ k => XS.aload X35.here hx rfl (hb hby at_54) rfl rfl k) ?_
    show OGo p e below _ (T35.setTop (mkF m 56 #[.val (.int i0), .val (.int i1), .val (.int i2), .val (.int i3), .val (.int i4), .val (.int ((1 : Int32) + (i0 &&& (3 : Int32)))), .val (.int (own_al i1)), .val (.int (own_al i2)), .val (.int (own_al i3)), .val (.int (own_al i4)), .val (.ref b_33), .val (.ref b_35), .unset] [(.ref b_35)]))
    obtain ⟨cq38, kq38, q38a, q38b, q38c⟩ := isOf hZ35 rfl G35_2
    obtain ⟨_, _, ⟨T38, L38, k38, n38⟩, -, X38, ⟨Lc38, hQ38, l38, y38, z38⟩, st38⟩ := X35.virtualBack hx (y := (⟨"com/example/trusty_lock/trustylock/LockName", "toString", "()Ljava/lang/String;"⟩ : MethodName)) (z := (⟨"com/example/trusty_lock/trustylock/LockName", "toString", "()Ljava/lang/String;"⟩ : MethodName)) hown35 (mvT hZ35 (hw _ (List.mem_of_getElem? (i := 97) rfl))) (mvT hZ35 (hw _ (List.mem_of_getElem? (i := 98) rfl))) (notFace_of_selects (args := #[]) (mvT hZ35 (hw _ (List.mem_of_getElem? (i := 100) rfl)))) (mvT hZ35 (hw _ (List.mem_of_getElem? (i := 100) rfl))) (mvT hZ35 (hw _ (List.mem_of_getElem? (i := 99) rfl))) (by decide) (backOf (W := 0) (rm21 l Z av0 hw [] b_35 b_33 T35.heap n0 (Nat.le_trans Z0 K35.1) G35_3) hZ35 (hw _ (List.mem_of_getElem? (i := 101) rfl)) (hw _ (List.mem_of_getElem? (i := 40) rfl)) (by decide) (by decide)) q38a q38c (g := (mkF m 56 #[.val (.int i0), .val (.int i1), .val (.int i2), .val (.int i3), .val (.int i4), .val (.int ((1 : Int32) + (i0 &&& (3 : Int32)))), .val (.int (own_al i1)), .val (.int (own_al i2)), .val (.int (own_al i3)), .val (.int (own_al i4)), .val (.ref b_33), .val (.ref b_35), .unset] [(.ref b_35)])) rfl (by rw [hml]; rfl) (Steps.refl _) (argsL := []) (rest := []) (lenOf own_pd9 rfl) rfl (by show 2 * 0 + _ ≤ _; exact Nat.le_of_eq rfl) (hb hby at_56) (fun _ _ => ⟨rfl, rfl, (by decide : 6 + 0 ≤ _), (by decide : 31 + 0 ≤ _)⟩)
    dsimp only [Pt.U, Pt.locs, Pt.cells, Pt.slots] at X38 l38 y38 z38 st38 hQ38
    subst l38 y38 z38
    obtain ⟨rfl, N38q, e38⟩ := hQ38
    have N38 := Fr.app N35 N38q
    refine OGo.of st38 ?_
    show OGo p e below _ (T38.setTop (mkF m 59 #[.val (.int i0), .val (.int i1), .val (.int i2), .val (.int i3), .val (.int i4), .val (.int ((1 : Int32) + (i0 &&& (3 : Int32)))), .val (.int (own_al i1)), .val (.int (own_al i2)), .val (.int (own_al i3)), .val (.int (own_al i4)), .val (.ref b_33), .val (.ref b_35), .unset] [(.ref b_33)]))
    refine OGo.by (fun _ k => XS.astore X38.here hx rfl (hb hby at_59) rfl rfl (l' := #[.val (.int i0), .val (.int i1), .val (.int i2), .val (.int i3), .val (.int i4), .val (.int ((1 : Int32) + (i0 &&& (3 : Int32)))), .val (.int (own_al i1)), .val (.int (own_al i2)), .val (.int (own_al i3)), .val (.int (own_al i4)), .val (.ref b_33), .val (.ref b_35), .val (.ref b_33)]) rfl k) ?_
    show OGo p e below _ (T38.setTop (mkF m 61 #[.val (.int i0), .val (.int i1), .val (.int i2), .val (.int i3), .val (.int i4), .val (.int ((1 : Int32) + (i0 &&& (3 : Int32)))), .val (.int (own_al i1)), .val (.int (own_al i2)), .val (.int (own_al i3)), .val (.int (own_al i4)), .val (.ref b_33), .val (.ref b_35), .val (.ref b_33)] []))
    refine OGo.by (fun _ k => XS.aload X38.here hx rfl (hb hby at_61) rfl rfl k) ?_
    show OGo p e below _ (T38.setTop (mkF m 63 #[.val (.int i0), .val (.int i1), .val (.int i2), .val (.int i3), .val (.int i4), .val (.int ((1 : Int32) + (i0 &&& (3 : Int32)))), .val (.int (own_al i1)), .val (.int (own_al i2)), .val (.int (own_al i3)), .val (.int (own_al i4)), .val (.ref b_33), .val (.ref b_35), .val (.ref b_33)] [(.ref b_33)]))
    have f40 : Exa Z T35.heap b_33 "java/lang/String" := (G33_5.keep Kc35)
    have f41 : Fld Z T35.heap b_33 "java/lang/String" "value" "[B" (.ref t_33) := (G33_7.keep Kc35 nin0)
    have f42 : Fld Z T35.heap b_33 "java/lang/String" "coder" "B" (.int (0 : Int32)) := (G33_6.keep Kc35 nin0)
    have f43 : Arv Z T35.heap t_33 kb_33 .byte (3 : Int32) ((([(nar .char (own_al i1)), (nar .char (own_al i2)), (nar .char (own_al i3))] : List Int32).map (fun c => c.toInt8.toInt32)).map Value.int) (.int 0) := (G33_8.keep Kc35 nin0)
    have f44 : Old Z n0 T35.heap := (f36.keep Kc35 all0)
    have hsw39 : ∀ d ∈ StrChars.Road.wordsLen, d.before av0 Z = true := fun d hd => hw d ((by decide +kernel : ∀ d ∈ StrChars.Road.wordsLen, d ∈ tables_1) d hd)
    obtain ⟨cq39, kq39, q39a, q39b, q39c⟩ := isOf hZ35 e38 f40
    obtain ⟨v39, _, ⟨T39, L39, k39, n39⟩, -, X39, ⟨Lc39, hQ39, l39, y39, z39⟩, st39⟩ := X38.virtualBack hx (y := (⟨"java/lang/String", "length", "()I"⟩ : MethodName)) (z := (⟨"java/lang/String", "length", "()I"⟩ : MethodName)) hown35 (mvT hZ35 (hw _ (List.mem_of_getElem? (i := 102) rfl))) (mvT hZ35 (hw _ (List.mem_of_getElem? (i := 55) rfl))) (notFace_of_selects (args := #[]) (mvT hZ35 (hw _ (List.mem_of_getElem? (i := 57) rfl)))) (mvT hZ35 (hw _ (List.mem_of_getElem? (i := 57) rfl))) (mvT hZ35 (hw _ (List.mem_of_getElem? (i := 56) rfl))) (by decide) (StrChars.Road.lenW (W := 0) hZ35 hsw39 (kI := 4) (hw _ (List.mem_of_getElem? (i := 9) rfl)) f40 f41 f42 f43 hcd34 hbd34 (S1.ext f44.2) hcz (Nat.le_of_ble_eq_true rfl) (by decide) (by decide)) q39a q39c (g := (mkF m 63 #[.val (.int i0), .val (.int i1), .val (.int i2), .val (.int i3), .val (.int i4), .val (.int ((1 : Int32) + (i0 &&& (3 : Int32)))), .val (.int (own_al i1)), .val (.int (own_al i2)), .val (.int (own_al i3)), .val (.int (own_al i4)), .val (.ref b_33), .val (.ref b_35), .val (.ref b_33)] [(.ref b_33)])) rfl (by rw [hml]; rfl) (Steps.refl _) (argsL := []) (rest := []) (lenOf own_pd3 rfl) rfl (by show 2 * 0 + _ ≤ _; exact Nat.le_of_eq rfl) (hb hby at_63) (fun _ _ => ⟨rfl, e38, (by decide : 6 + 0 ≤ _), (by decide : 31 + 0 ≤ _)⟩)
    dsimp only [Pt.U, Pt.locs, Pt.cells, Pt.slots] at X39 l39 y39 z39 st39 hQ39
    subst l39 y39 z39
    obtain ⟨rfl, rfl, e39⟩ := hQ39
    have N39 := Fr.app N38 (Fr.nil n0)
    refine OGo.of st39 ?_
    show OGo p e below _ (T39.setTop (mkF m 66 #[.val (.int i0), .val (.int i1), .val (.int i2), .val (.int i3), .val (.int i4), .val (.int ((1 : Int32) + (i0 &&& (3 : Int32)))), .val (.int (own_al i1)), .val (.int (own_al i2)), .val (.int (own_al i3)), .val (.int (own_al i4)), .val (.ref b_33), .val (.ref b_35), .val (.ref b_33)] [(.int (3 : Int32))]))
    refine OGo.by (fun _ k => XS.iload X39.here hx rfl (hb hby at_66) rfl k) ?_
    show OGo p e below _ (T39.setTop (mkF m 68 #[.val (.int i0), .val (.int i1), .val (.int i2), .val (.int i3), .val (.int i4), .val (.int ((1 : Int32) + (i0 &&& (3 : Int32)))), .val (.int (own_al i1)), .val (.int (own_al i2)), .val (.int (own_al i3)), .val (.int (own_al i4)), .val (.ref b_33), .val (.ref b_35), .val (.ref b_33)] [(.int ((1 : Int32) + (i0 &&& (3 : Int32)))), (.int (3 : Int32))]))
    refine OGo.by (fun _ k => XS.icmpNo X39.here hx rfl (hb hby at_68) rfl (teq hf.symm).2 k) ?_
    show OGo p e below _ (T39.setTop (mkF m 71 #[.val (.int i0), .val (.int i1), .val (.int i2), .val (.int i3), .val (.int i4), .val (.int ((1 : Int32) + (i0 &&& (3 : Int32)))), .val (.int (own_al i1)), .val (.int (own_al i2)), .val (.int (own_al i3)), .val (.int (own_al i4)), .val (.ref b_33), .val (.ref b_35), .val (.ref b_33)] []))
    refine OGo.by (fun _ k => XS.aload X39.here hx rfl (hb hby at_71) rfl rfl k) ?_
    show OGo p e below _ (T39.setTop (mkF m 73 #[.val (.int i0), .val (.int i1), .val (.int i2), .val (.int i3), .val (.int i4), .val (.int ((1 : Int32) + (i0 &&& (3 : Int32)))), .val (.int (own_al i1)), .val (.int (own_al i2)), .val (.int (own_al i3)), .val (.int (own_al i4)), .val (.ref b_33), .val (.ref b_35), .val (.ref b_33)] [(.ref b_33)]))
    refine OGo.by (fun _ k => XS.iconst X39.here hx rfl (hb hby at_73) k) ?_
    show OGo p e below _ (T39.setTop (mkF m 74 #[.val (.int i0), .val (.int i1), .val (.int i2), .val (.int i3), .val (.int i4), .val (.int ((1 : Int32) + (i0 &&& (3 : Int32)))), .val (.int (own_al i1)), .val (.int (own_al i2)), .val (.int (own_al i3)), .val (.int (own_al i4)), .val (.ref b_33), .val (.ref b_35), .val (.ref b_33)] [(.int (0 : Int32)), (.ref b_33)]))
    have hsw45 : ∀ d ∈ StrChars.Road.wordsChN, d.before av0 Z = true := fun d hd => hw d ((by decide +kernel : ∀ d ∈ StrChars.Road.wordsChN, d ∈ tables_1) d hd)
    obtain ⟨cq45, kq45, q45a, q45b, q45c⟩ := isOf hZ35 e39 f40
    obtain ⟨v45, _, ⟨T45, L45, k45, n45⟩, -, X45, ⟨Lc45, hQ45, l45, y45, z45⟩, st45⟩ := X39.virtualBack hx (y := (⟨"java/lang/String", "charAt", "(I)C"⟩ : MethodName)) (z := (⟨"java/lang/String", "charAt", "(I)C"⟩ : MethodName)) hown35 (mvT hZ35 (hw _ (List.mem_of_getElem? (i := 103) rfl))) (mvT hZ35 (hw _ (List.mem_of_getElem? (i := 65) rfl))) (notFace_of_selects (args := #[]) (mvT hZ35 (hw _ (List.mem_of_getElem? (i := 67) rfl)))) (mvT hZ35 (hw _ (List.mem_of_getElem? (i := 67) rfl))) (mvT hZ35 (hw _ (List.mem_of_getElem? (i := 66) rfl))) (by decide) (StrChars.Road.chN (W := 0) hZ35 hsw45 (kI := 4) (hw _ (List.mem_of_getElem? (i := 9) rfl)) f40 f41 f42 f43 hcd34 hbd34 (S1.ext f44.2) hcz (S2.ext f44.2) fm_isref (Nat.le_of_ble_eq_true rfl) (i := 0) (Nat.le_of_ble_eq_true rfl) (j := (0 : Int32)) rfl (by decide) (by decide)) q45a q45c (g := (mkF m 74 #[.val (.int i0), .val (.int i1), .val (.int i2), .val (.int i3), .val (.int i4), .val (.int ((1 : Int32) + (i0 &&& (3 : Int32)))), .val (.int (own_al i1)), .val (.int (own_al i2)), .val (.int (own_al i3)), .val (.int (own_al i4)), .val (.ref b_33), .val (.ref b_35), .val (.ref b_33)] [(.int (0 : Int32)), (.ref b_33)])) rfl (by rw [hml]; rfl) (Steps.refl _) (argsL := [(.int (0 : Int32))]) (rest := []) (lenOf own_pd5 rfl) rfl (by show 2 * 0 + _ ≤ _; exact Nat.le_of_eq rfl) (hb hby at_74) (fun _ _ => ⟨rfl, e39, (by decide : 6 + 0 ≤ _), (by decide : 31 + 0 ≤ _)⟩)
    dsimp only [Pt.U, Pt.locs, Pt.cells, Pt.slots] at X45 l45 y45 z45 st45 hQ45
    subst l45 y45 z45
    obtain ⟨rfl, rfl, e45⟩ := hQ45
    have N45 := Fr.app N39 (Fr.nil n0)
    refine OGo.of st45 ?_
    show OGo p e below _ (T45.setTop (mkF m 77 #[.val (.int i0), .val (.int i1), .val (.int i2), .val (.int i3), .val (.int i4), .val (.int ((1 : Int32) + (i0 &&& (3 : Int32)))), .val (.int (own_al i1)), .val (.int (own_al i2)), .val (.int (own_al i3)), .val (.int (own_al i4)), .val (.ref b_33), .val (.ref b_35), .val (.ref b_33)] [(.int (nar .char (own_al i1)))]))
    refine OGo.by (fun _ k => XS.iload X45.here hx rfl (hb hby at_77) rfl k) ?_
    show OGo p e below _ (T45.setTop (mkF m 79 #[.val (.int i0), .val (.int i1), .val (.int i2), .val (.int i3), .val (.int i4), .val (.int ((1 : Int32) + (i0 &&& (3 : Int32)))), .val (.int (own_al i1)), .val (.int (own_al i2)), .val (.int (own_al i3)), .val (.int (own_al i4)), .val (.ref b_33), .val (.ref b_35), .val (.ref b_33)] [(.int (own_al i1)), (.int (nar .char (own_al i1)))]))
    refine OGo.by (fun _ k => XS.icmpNo X45.here hx rfl (hb hby at_79) rfl (teq (own_al_ok i1).2.1).2 k) ?_
    show OGo p e below _ (T45.setTop (mkF m 82 #[.val (.int i0), .val (.int i1), .val (.int i2), .val (.int i3), .val (.int i4), .val (.int ((1 : Int32) + (i0 &&& (3 : Int32)))), .val (.int (own_al i1)), .val (.int (own_al i2)), .val (.int (own_al i3)), .val (.int (own_al i4)), .val (.ref b_33), .val (.ref b_35), .val (.ref b_33)] []))
    refine OGo.by (fun _ k => XS.aload X45.here hx rfl (hb hby at_82) rfl rfl k) ?_
    show OGo p e below _ (T45.setTop (mkF m 84 #[.val (.int i0), .val (.int i1), .val (.int i2), .val (.int i3), .val (.int i4), .val (.int ((1 : Int32) + (i0 &&& (3 : Int32)))), .val (.int (own_al i1)), .val (.int (own_al i2)), .val (.int (own_al i3)), .val (.int (own_al i4)), .val (.ref b_33), .val (.ref b_35), .val (.ref b_33)] [(.ref b_33)]))
    refine OGo.by (fun _ k => XS.aload X45.here hx rfl (hb hby at_84) rfl rfl k) ?_
    show OGo p e below _ (T45.setTop (mkF m 86 #[.val (.int i0), .val (.int i1), .val (.int i2), .val (.int i3), .val (.int i4), .val (.int ((1 : Int32) + (i0 &&& (3 : Int32)))), .val (.int (own_al i1)), .val (.int (own_al i2)), .val (.int (own_al i3)), .val (.int (own_al i4)), .val (.ref b_33), .val (.ref b_35), .val (.ref b_33)] [(.ref b_33), (.ref b_33)]))
    obtain ⟨cq46, kq46, q46a, q46b, q46c⟩ := isOf hZ35 e45 f40
    obtain ⟨_, _, ⟨T46, L46, k46, n46⟩, -, X46, ⟨Lc46, hQ46, l46, y46, z46⟩, st46⟩ := X45.virtualBack hx (y := (⟨"java/lang/String", "equals", "(Ljava/lang/Object;)Z"⟩ : MethodName)) (z := (⟨"java/lang/String", "equals", "(Ljava/lang/Object;)Z"⟩ : MethodName)) hown35 (mvT hZ35 (hw _ (List.mem_of_getElem? (i := 104) rfl))) (mvT hZ35 (hw _ (List.mem_of_getElem? (i := 105) rfl))) (notFace_of_selects (args := #[]) (mvT hZ35 (hw _ (List.mem_of_getElem? (i := 107) rfl)))) (mvT hZ35 (hw _ (List.mem_of_getElem? (i := 107) rfl))) (mvT hZ35 (hw _ (List.mem_of_getElem? (i := 106) rfl))) (by decide) (backOf (W := 0) (rmSame l Z av0 hw [] b_33 T35.heap n0 (Nat.le_trans Z0 K35.1)) hZ35 (hw _ (List.mem_of_getElem? (i := 108) rfl)) (hw _ (List.mem_of_getElem? (i := 10) rfl)) (by decide) (by decide)) q46a q46c (g := (mkF m 86 #[.val (.int i0), .val (.int i1), .val (.int i2), .val (.int i3), .val (.int i4), .val (.int ((1 : Int32) + (i0 &&& (3 : Int32)))), .val (.int (own_al i1)), .val (.int (own_al i2)), .val (.int (own_al i3)), .val (.int (own_al i4)), .val (.ref b_33), .val (.ref b_35), .val (.ref b_33)] [(.ref b_33), (.ref b_33)])) rfl (by rw [hml]; rfl) (Steps.refl _) (argsL := [(.ref b_33)]) (rest := []) (lenOf own_pd10 rfl) rfl (by show 2 * 0 + _ ≤ _; exact Nat.le_of_eq rfl) (hb hby at_86) (fun _ _ => ⟨rfl, e45, (by decide : 6 + 0 ≤ _), (by decide : 31 + 0 ≤ _)⟩)
    dsimp only [Pt.U, Pt.locs, Pt.cells, Pt.slots] at X46 l46 y46 z46 st46 hQ46
    subst l46 y46 z46
    obtain ⟨rfl, N46q, e46⟩ := hQ46
    have N46 := Fr.app N45 N46q
    refine OGo.of st46 ?_
    show OGo p e below _ (T46.setTop (mkF m 89 #[.val (.int i0), .val (.int i1), .val (.int i2), .val (.int i3), .val (.int i4), .val (.int ((1 : Int32) + (i0 &&& (3 : Int32)))), .val (.int (own_al i1)), .val (.int (own_al i2)), .val (.int (own_al i3)), .val (.int (own_al i4)), .val (.ref b_33), .val (.ref b_35), .val (.ref b_33)] [(.int (1 : Int32))]))
    refine OGo.by (fun _ k => XS.ifNo X46.here hx rfl (hb hby at_89) rfl ((if0 _ _).trans (feq (by decide : ¬ ((1 : Int32) = (0 : Int32)))).1) k) ?_
    show OGo p e below _ (T46.setTop (mkF m 92 #[.val (.int i0), .val (.int i1), .val (.int i2), .val (.int i3), .val (.int i4), .val (.int ((1 : Int32) + (i0 &&& (3 : Int32)))), .val (.int (own_al i1)), .val (.int (own_al i2)), .val (.int (own_al i3)), .val (.int (own_al i4)), .val (.ref b_33), .val (.ref b_35), .val (.ref b_33)] []))
    refine OGo.by (fun _ k => XS.iconst X46.here hx rfl (hb hby at_92) k) ?_
    show OGo p e below _ (T46.setTop (mkF m 93 #[.val (.int i0), .val (.int i1), .val (.int i2), .val (.int i3), .val (.int i4), .val (.int ((1 : Int32) + (i0 &&& (3 : Int32)))), .val (.int (own_al i1)), .val (.int (own_al i2)), .val (.int (own_al i3)), .val (.int (own_al i4)), .val (.ref b_33), .val (.ref b_35), .val (.ref b_33)] [(.int (1 : Int32))]))
    refine OGo.by (fun _ k => XS.goto X46.here hx rfl (pc0 := 93) (pc' := 97) rfl (hb hby at_93) (by decide) (by decide) k) ?_
    show OGo p e below _ (T46.setTop (mkF m 97 #[.val (.int i0), .val (.int i1), .val (.int i2), .val (.int i3), .val (.int i4), .val (.int ((1 : Int32) + (i0 &&& (3 : Int32)))), .val (.int (own_al i1)), .val (.int (own_al i2)), .val (.int (own_al i3)), .val (.int (own_al i4)), .val (.ref b_33), .val (.ref b_35), .val (.ref b_33)] [(.int (1 : Int32))]))
    obtain ⟨fs, hr, hrun, hended, hRE⟩ := Stand.leaveW (s := s) (vm₁ := T35.vm) X46 hS35 (by rw [e46]; exact (Nat.le_refl T35.heap.size)) (v := some (.int (1 : Int32))) (fun h => by rw [Bd.returns] at h; cases h)
    refine OGo.ret (retN X46 hx (t := .boolean) Bd.returns (by simp) (hb hby at_97) hr) hrun hended ⟨_, _, rfl, ?_, hRE.1, hRE.2.1, hRE.2.2.1, hRE.2.2.2.mono (by decide) (by decide)⟩
    show Q_rm0 Z i0 i1 i2 i3 i4 cz fm h0 n0 _ T46.heap _
    rw [e46]
    exact ⟨rfl, N46⟩
  · obtain ⟨_, _, ⟨T47, L47, k47, n47⟩, -, X47, ⟨Lc47, hQ47, l47, y47, z47⟩, st47⟩ := Jvm.LawKit.callS X4 hx (y := (⟨"com/example/trusty_lock/trustylock/LockNameOfPinLaw", "make", "(ICCCC)Ljava/lang/String;"⟩ : MethodName)) hown (mvT hZ (hw _ (List.mem_of_getElem? (i := 5) rfl))) (mvT hZ (hw _ (List.mem_of_getElem? (i := 6) rfl))) (mvT hZ (hw _ (List.mem_of_getElem? (i := 2) rfl))) (mvT hZ (hw _ (List.mem_of_getElem? (i := 7) rfl))) (by decide) (backOf (W := 0) (rmMk4 l Z av0 hw [] ((1 : Int32) + (i0 &&& (3 : Int32))) (own_al i1) (own_al i2) (own_al i3) (own_al i4) cz h0 n0 Z0 hf (own_al_ok i1).2.1 (own_al_ok i1).1 (own_al_ok i2).2.1 (own_al_ok i2).1 (own_al_ok i3).2.1 (own_al_ok i3).1 (own_al_ok i4).2.1 (own_al_ok i4).1 O0 S1 hcz) hZ (hw _ (List.mem_of_getElem? (i := 7) rfl)) (hw _ (List.mem_of_getElem? (i := 2) rfl)) (by decide) (by decide)) (g := (mkF m 42 #[.val (.int i0), .val (.int i1), .val (.int i2), .val (.int i3), .val (.int i4), .val (.int ((1 : Int32) + (i0 &&& (3 : Int32)))), .val (.int (own_al i1)), .val (.int (own_al i2)), .val (.int (own_al i3)), .val (.int (own_al i4)), .unset, .unset, .unset] [(.int (own_al i4)), (.int (own_al i3)), (.int (own_al i2)), (.int (own_al i1)), (.int ((1 : Int32) + (i0 &&& (3 : Int32))))])) rfl (by rw [hml]; rfl) (argsL := [(.int ((1 : Int32) + (i0 &&& (3 : Int32)))), (.int (own_al i1)), (.int (own_al i2)), (.int (own_al i3)), (.int (own_al i4))]) (rest := []) (lenOf own_pd7 rfl) rfl (by show 2 * 0 + _ ≤ _; exact Nat.le_of_eq rfl) (hb hby at_42) (fun _ _ => ⟨rfl, e4, (by decide : 0 + 3 ≤ _), (by decide : 0 + 12 ≤ _)⟩)
    dsimp only [Pt.U, Pt.locs, Pt.cells, Pt.slots] at X47 l47 y47 z47 st47 hQ47
    subst l47 y47 z47
    obtain ⟨b_47, t_47, kb_47, rfl, N47q, Kc47, G47_0, G47_1, G47_2, G47_3, G47_4, G47_5, G47_6, G47_7, G47_8⟩ := hQ47
    have N47 := Fr.app N4 N47q
    have g_b_47 : n0 ≤ b_47 := Nat.le_trans Z0 G47_0
    have sz_b_47 : h0.size ≤ b_47 := Nat.le_trans (Nat.le_refl _) G47_0
    have g_t_47 : n0 ≤ t_47 := Nat.le_trans Z0 G47_2
    have sz_t_47 : h0.size ≤ t_47 := Nat.le_trans (Nat.le_refl _) G47_2
    have K47 : Keep h0 T47.heap [] := ((Keep.refl h0 [])).trans Kc47 (fun x hx => nomatch hx)
    refine OGo.by st47 ?_
    show OGo p e below _ (T47.setTop (mkF m 45 #[.val (.int i0), .val (.int i1), .val (.int i2), .val (.int i3), .val (.int i4), .val (.int ((1 : Int32) + (i0 &&& (3 : Int32)))), .val (.int (own_al i1)), .val (.int (own_al i2)), .val (.int (own_al i3)), .val (.int (own_al i4)), .unset, .unset, .unset] [(.ref b_47)]))
    have hp47 : ∀ c ∈ ([(nar .char (own_al i1)), (nar .char (own_al i2)), (nar .char (own_al i3)), (nar .char (own_al i4))] : List Int32), ¬ c < 0 ∧ ¬ (255 : Int32) < c := by
      intro c hc; simp only [List.mem_cons, List.not_mem_nil, or_false] at hc
      rcases hc with rfl | rfl | rfl | rfl <;> exact own_nar (own_al_ok _).2.1 (own_al_ok _).1
    have ha47 : ∀ c ∈ ([(nar .char (own_al i1)), (nar .char (own_al i2)), (nar .char (own_al i3)), (nar .char (own_al i4))] : List Int32), own_isA c = (1 : Int32) := by
      intro c hc; simp only [List.mem_cons, List.not_mem_nil, or_false] at hc
      rcases hc with rfl | rfl | rfl | rfl <;> exact (own_al_ok _).2.2
    refine OGo.by (fun _ k => XS.astore X47.here hx rfl (hb hby at_45) rfl rfl (l' := #[.val (.int i0), .val (.int i1), .val (.int i2), .val (.int i3), .val (.int i4), .val (.int ((1 : Int32) + (i0 &&& (3 : Int32)))), .val (.int (own_al i1)), .val (.int (own_al i2)), .val (.int (own_al i3)), .val (.int (own_al i4)), .val (.ref b_47), .unset, .unset]) rfl k) ?_
    show OGo p e below _ (T47.setTop (mkF m 47 #[.val (.int i0), .val (.int i1), .val (.int i2), .val (.int i3), .val (.int i4), .val (.int ((1 : Int32) + (i0 &&& (3 : Int32)))), .val (.int (own_al i1)), .val (.int (own_al i2)), .val (.int (own_al i3)), .val (.int (own_al i4)), .val (.ref b_47), .unset, .unset] []))
    refine OGo.by (fun _ k => XS.aload X47.here hx rfl (hb hby at_47) rfl rfl k) ?_
    show OGo p e below _ (T47.setTop (mkF m 49 #[.val (.int i0), .val (.int i1), .val (.int i2), .val (.int i3), .val (.int i4), .val (.int ((1 : Int32) + (i0 &&& (3 : Int32)))), .val (.int (own_al i1)), .val (.int (own_al i2)), .val (.int (own_al i3)), .val (.int (own_al i4)), .val (.ref b_47), .unset, .unset] [(.ref b_47)]))
    have hcd48 : StrChars.Road.CodA ([(nar .char (own_al i1)), (nar .char (own_al i2)), (nar .char (own_al i3)), (nar .char (own_al i4))] : List Int32) 0 (4 : Int32) ((([(nar .char (own_al i1)), (nar .char (own_al i2)), (nar .char (own_al i3)), (nar .char (own_al i4))] : List Int32).map (fun c => c.toInt8.toInt32)).map Value.int) := StrChars.Road.codOf (n := 4) rfl (fun c hc => (hp47 c hc).2)
    have hbd48 : ∀ c ∈ ([(nar .char (own_al i1)), (nar .char (own_al i2)), (nar .char (own_al i3)), (nar .char (own_al i4))] : List Int32), ¬ c < 0 ∧ ¬ (65535 : Int32) < c := own_up _ hp47
    have f50 : Old Z n0 T47.heap := (O0.keep Kc47 all0)
    obtain ⟨_, _, ⟨T49, L49, k49, n49⟩, -, Xw49, hs49, hg49, ⟨Lc49, hQ49, l49, y49, z49⟩, st49⟩ := callSS X47 hx (y := (⟨"com/example/trusty_lock/trustylock/LockName", "of", "(Ljava/lang/String;)Lcom/example/trusty_lock/trustylock/LockName;"⟩ : MethodName)) hown (mvT hZ (hw _ (List.mem_of_getElem? (i := 38) rfl))) (mvT hZ (hw _ (List.mem_of_getElem? (i := 39) rfl))) (mvT hZ (hw _ (List.mem_of_getElem? (i := 40) rfl))) (mvT hZ (hw _ (List.mem_of_getElem? (i := 41) rfl))) (by decide) (backOfS (W := 0) (rmOf l Z av0 hw [] b_47 t_47 kb_47 ([(nar .char (own_al i1)), (nar .char (own_al i2)), (nar .char (own_al i3)), (nar .char (own_al i4))] : List Int32) (4 : Int32) cz fm T47.heap n0 (Nat.le_trans Z0 K47.1) G47_5 G47_7 G47_6 G47_8 hcd48 hbd48 (Nat.le_of_ble_eq_true rfl) (Nat.le_of_ble_eq_true rfl) ha47 f50 S1 hcz S2 fm_isref) hZ (hw _ (List.mem_of_getElem? (i := 41) rfl)) (hw _ (List.mem_of_getElem? (i := 40) rfl)) (by decide) (by decide)) (g := (mkF m 49 #[.val (.int i0), .val (.int i1), .val (.int i2), .val (.int i3), .val (.int i4), .val (.int ((1 : Int32) + (i0 &&& (3 : Int32)))), .val (.int (own_al i1)), .val (.int (own_al i2)), .val (.int (own_al i3)), .val (.int (own_al i4)), .val (.ref b_47), .unset, .unset] [(.ref b_47)])) rfl (by rw [hml]; rfl) (argsL := [(.ref b_47)]) (rest := []) (lenOf own_pd8 rfl) rfl (by show 2 * 0 + _ ≤ _; exact Nat.le_of_eq rfl) (hb hby at_49) (fun _ _ => ⟨rfl, rfl, (by decide : 3 + 3 ≤ _), (by decide : 12 + 21 ≤ _)⟩)
    dsimp only [Pt.U, Pt.locs, Pt.cells, Pt.slots] at Xw49 hs49 hg49 l49 y49 z49 st49 hQ49
    subst l49 y49 z49
    have f51 : 0 ≤ T47.heap.size := (Nat.le_trans (Nat.zero_le _) Kc47.1)
    obtain ⟨X49, hS49, hZ49, hown49⟩ := rebS (s := s) (vm0 := s.vm) hS0 (n1 := T47.heap.size) (by exact f51) Xw49 hs49 hg49 hZ hown
    obtain ⟨b_49, rfl, N49q, Kc49, G49_0, G49_1, G49_2, G49_3⟩ := hQ49
    have N49 := Fr.app N47 N49q
    have ne_b_47_b_49 : b_47 ≠ b_49 := Nat.ne_of_lt (Nat.lt_of_lt_of_le G47_5.lt G49_0)
    have ne_t_47_b_49 : t_47 ≠ b_49 := Nat.ne_of_lt (Nat.lt_of_lt_of_le G47_8.lt G49_0)
    have g_b_49 : n0 ≤ b_49 := Nat.le_trans (Nat.le_trans Z0 K47.1) G49_0
    have sz_b_49 : h0.size ≤ b_49 := Nat.le_trans K47.1 G49_0
    have K49 : Keep h0 T49.heap [] := (K47).trans Kc49 (fun x hx => nomatch hx)
    refine OGo.of st49 ?_
    show OGo p e below _ (T49.setTop (mkF m 52 #[.val (.int i0), .val (.int i1), .val (.int i2), .val (.int i3), .val (.int i4), .val (.int ((1 : Int32) + (i0 &&& (3 : Int32)))), .val (.int (own_al i1)), .val (.int (own_al i2)), .val (.int (own_al i3)), .val (.int (own_al i4)), .val (.ref b_47), .unset, .unset] [(.ref b_49)]))
    refine OGo.by (fun _ k => XS.astore X49.here hx rfl (hb hby at_52) rfl rfl (l' := #[.val (.int i0), .val (.int i1), .val (.int i2), .val (.int i3), .val (.int i4), .val (.int ((1 : Int32) + (i0 &&& (3 : Int32)))), .val (.int (own_al i1)), .val (.int (own_al i2)), .val (.int (own_al i3)), .val (.int (own_al i4)), .val (.ref b_47), .val (.ref b_49), .unset]) rfl k) ?_
    show OGo p e below _ (T49.setTop (mkF m 54 #[.val (.int i0), .val (.int i1), .val (.int i2), .val (.int i3), .val (.int i4), .val (.int ((1 : Int32) + (i0 &&& (3 : Int32)))), .val (.int (own_al i1)), .val (.int (own_al i2)), .val (.int (own_al i3)), .val (.int (own_al i4)), .val (.ref b_47), .val (.ref b_49), .unset] []))
    refine OGo.by (fun _ k => XS.aload X49.here hx rfl (hb hby at_54) rfl rfl k) ?_
    show OGo p e below _ (T49.setTop (mkF m 56 #[.val (.int i0), .val (.int i1), .val (.int i2), .val (.int i3), .val (.int i4), .val (.int ((1 : Int32) + (i0 &&& (3 : Int32)))), .val (.int (own_al i1)), .val (.int (own_al i2)), .val (.int (own_al i3)), .val (.int (own_al i4)), .val (.ref b_47), .val (.ref b_49), .unset] [(.ref b_49)]))
    obtain ⟨cq52, kq52, q52a, q52b, q52c⟩ := isOf hZ49 rfl G49_2
    obtain ⟨_, _, ⟨T52, L52, k52, n52⟩, -, X52, ⟨Lc52, hQ52, l52, y52, z52⟩, st52⟩ := X49.virtualBack hx (y := (⟨"com/example/trusty_lock/trustylock/LockName", "toString", "()Ljava/lang/String;"⟩ : MethodName)) (z := (⟨"com/example/trusty_lock/trustylock/LockName", "toString", "()Ljava/lang/String;"⟩ : MethodName)) hown49 (mvT hZ49 (hw _ (List.mem_of_getElem? (i := 97) rfl))) (mvT hZ49 (hw _ (List.mem_of_getElem? (i := 98) rfl))) (notFace_of_selects (args := #[]) (mvT hZ49 (hw _ (List.mem_of_getElem? (i := 100) rfl)))) (mvT hZ49 (hw _ (List.mem_of_getElem? (i := 100) rfl))) (mvT hZ49 (hw _ (List.mem_of_getElem? (i := 99) rfl))) (by decide) (backOf (W := 0) (rm21 l Z av0 hw [] b_49 b_47 T49.heap n0 (Nat.le_trans Z0 K49.1) G49_3) hZ49 (hw _ (List.mem_of_getElem? (i := 101) rfl)) (hw _ (List.mem_of_getElem? (i := 40) rfl)) (by decide) (by decide)) q52a q52c (g := (mkF m 56 #[.val (.int i0), .val (.int i1), .val (.int i2), .val (.int i3), .val (.int i4), .val (.int ((1 : Int32) + (i0 &&& (3 : Int32)))), .val (.int (own_al i1)), .val (.int (own_al i2)), .val (.int (own_al i3)), .val (.int (own_al i4)), .val (.ref b_47), .val (.ref b_49), .unset] [(.ref b_49)])) rfl (by rw [hml]; rfl) (Steps.refl _) (argsL := []) (rest := []) (lenOf own_pd9 rfl) rfl (by show 2 * 0 + _ ≤ _; exact Nat.le_of_eq rfl) (hb hby at_56) (fun _ _ => ⟨rfl, rfl, (by decide : 6 + 0 ≤ _), (by decide : 33 + 0 ≤ _)⟩)
    dsimp only [Pt.U, Pt.locs, Pt.cells, Pt.slots] at X52 l52 y52 z52 st52 hQ52
    subst l52 y52 z52
    obtain ⟨rfl, N52q, e52⟩ := hQ52
    have N52 := Fr.app N49 N52q
    refine OGo.of st52 ?_
    show OGo p e below _ (T52.setTop (mkF m 59 #[.val (.int i0), .val (.int i1), .val (.int i2), .val (.int i3), .val (.int i4), .val (.int ((1 : Int32) + (i0 &&& (3 : Int32)))), .val (.int (own_al i1)), .val (.int (own_al i2)), .val (.int (own_al i3)), .val (.int (own_al i4)), .val (.ref b_47), .val (.ref b_49), .unset] [(.ref b_47)]))
    refine OGo.by (fun _ k => XS.astore X52.here hx rfl (hb hby at_59) rfl rfl (l' := #[.val (.int i0), .val (.int i1), .val (.int i2), .val (.int i3), .val (.int i4), .val (.int ((1 : Int32) + (i0 &&& (3 : Int32)))), .val (.int (own_al i1)), .val (.int (own_al i2)), .val (.int (own_al i3)), .val (.int (own_al i4)), .val (.ref b_47), .val (.ref b_49), .val (.ref b_47)]) rfl k) ?_
    show OGo p e below _ (T52.setTop (mkF m 61 #[.val (.int i0), .val (.int i1), .val (.int i2), .val (.int i3), .val (.int i4), .val (.int ((1 : Int32) + (i0 &&& (3 : Int32)))), .val (.int (own_al i1)), .val (.int (own_al i2)), .val (.int (own_al i3)), .val (.int (own_al i4)), .val (.ref b_47), .val (.ref b_49), .val (.ref b_47)] []))
    refine OGo.by (fun _ k => XS.aload X52.here hx rfl (hb hby at_61) rfl rfl k) ?_
    show OGo p e below _ (T52.setTop (mkF m 63 #[.val (.int i0), .val (.int i1), .val (.int i2), .val (.int i3), .val (.int i4), .val (.int ((1 : Int32) + (i0 &&& (3 : Int32)))), .val (.int (own_al i1)), .val (.int (own_al i2)), .val (.int (own_al i3)), .val (.int (own_al i4)), .val (.ref b_47), .val (.ref b_49), .val (.ref b_47)] [(.ref b_47)]))
    have f54 : Exa Z T49.heap b_47 "java/lang/String" := (G47_5.keep Kc49)
    have f55 : Fld Z T49.heap b_47 "java/lang/String" "value" "[B" (.ref t_47) := (G47_7.keep Kc49 nin0)
    have f56 : Fld Z T49.heap b_47 "java/lang/String" "coder" "B" (.int (0 : Int32)) := (G47_6.keep Kc49 nin0)
    have f57 : Arv Z T49.heap t_47 kb_47 .byte (4 : Int32) ((([(nar .char (own_al i1)), (nar .char (own_al i2)), (nar .char (own_al i3)), (nar .char (own_al i4))] : List Int32).map (fun c => c.toInt8.toInt32)).map Value.int) (.int 0) := (G47_8.keep Kc49 nin0)
    have f58 : Old Z n0 T49.heap := (f50.keep Kc49 all0)
    have hsw53 : ∀ d ∈ StrChars.Road.wordsLen, d.before av0 Z = true := fun d hd => hw d ((by decide +kernel : ∀ d ∈ StrChars.Road.wordsLen, d ∈ tables_1) d hd)
    obtain ⟨cq53, kq53, q53a, q53b, q53c⟩ := isOf hZ49 e52 f54
    obtain ⟨v53, _, ⟨T53, L53, k53, n53⟩, -, X53, ⟨Lc53, hQ53, l53, y53, z53⟩, st53⟩ := X52.virtualBack hx (y := (⟨"java/lang/String", "length", "()I"⟩ : MethodName)) (z := (⟨"java/lang/String", "length", "()I"⟩ : MethodName)) hown49 (mvT hZ49 (hw _ (List.mem_of_getElem? (i := 102) rfl))) (mvT hZ49 (hw _ (List.mem_of_getElem? (i := 55) rfl))) (notFace_of_selects (args := #[]) (mvT hZ49 (hw _ (List.mem_of_getElem? (i := 57) rfl)))) (mvT hZ49 (hw _ (List.mem_of_getElem? (i := 57) rfl))) (mvT hZ49 (hw _ (List.mem_of_getElem? (i := 56) rfl))) (by decide) (StrChars.Road.lenW (W := 0) hZ49 hsw53 (kI := 4) (hw _ (List.mem_of_getElem? (i := 9) rfl)) f54 f55 f56 f57 hcd48 hbd48 (S1.ext f58.2) hcz (Nat.le_of_ble_eq_true rfl) (by decide) (by decide)) q53a q53c (g := (mkF m 63 #[.val (.int i0), .val (.int i1), .val (.int i2), .val (.int i3), .val (.int i4), .val (.int ((1 : Int32) + (i0 &&& (3 : Int32)))), .val (.int (own_al i1)), .val (.int (own_al i2)), .val (.int (own_al i3)), .val (.int (own_al i4)), .val (.ref b_47), .val (.ref b_49), .val (.ref b_47)] [(.ref b_47)])) rfl (by rw [hml]; rfl) (Steps.refl _) (argsL := []) (rest := []) (lenOf own_pd3 rfl) rfl (by show 2 * 0 + _ ≤ _; exact Nat.le_of_eq rfl) (hb hby at_63) (fun _ _ => ⟨rfl, e52, (by decide : 6 + 0 ≤ _), (by decide : 33 + 0 ≤ _)⟩)
    dsimp only [Pt.U, Pt.locs, Pt.cells, Pt.slots] at X53 l53 y53 z53 st53 hQ53
    subst l53 y53 z53
    obtain ⟨rfl, rfl, e53⟩ := hQ53
    have N53 := Fr.app N52 (Fr.nil n0)
    refine OGo.of st53 ?_
    show OGo p e below _ (T53.setTop (mkF m 66 #[.val (.int i0), .val (.int i1), .val (.int i2), .val (.int i3), .val (.int i4), .val (.int ((1 : Int32) + (i0 &&& (3 : Int32)))), .val (.int (own_al i1)), .val (.int (own_al i2)), .val (.int (own_al i3)), .val (.int (own_al i4)), .val (.ref b_47), .val (.ref b_49), .val (.ref b_47)] [(.int (4 : Int32))]))
    refine OGo.by (fun _ k => XS.iload X53.here hx rfl (hb hby at_66) rfl k) ?_
    show OGo p e below _ (T53.setTop (mkF m 68 #[.val (.int i0), .val (.int i1), .val (.int i2), .val (.int i3), .val (.int i4), .val (.int ((1 : Int32) + (i0 &&& (3 : Int32)))), .val (.int (own_al i1)), .val (.int (own_al i2)), .val (.int (own_al i3)), .val (.int (own_al i4)), .val (.ref b_47), .val (.ref b_49), .val (.ref b_47)] [(.int ((1 : Int32) + (i0 &&& (3 : Int32)))), (.int (4 : Int32))]))
    refine OGo.by (fun _ k => XS.icmpNo X53.here hx rfl (hb hby at_68) rfl (teq hf.symm).2 k) ?_
    show OGo p e below _ (T53.setTop (mkF m 71 #[.val (.int i0), .val (.int i1), .val (.int i2), .val (.int i3), .val (.int i4), .val (.int ((1 : Int32) + (i0 &&& (3 : Int32)))), .val (.int (own_al i1)), .val (.int (own_al i2)), .val (.int (own_al i3)), .val (.int (own_al i4)), .val (.ref b_47), .val (.ref b_49), .val (.ref b_47)] []))
    refine OGo.by (fun _ k => XS.aload X53.here hx rfl (hb hby at_71) rfl rfl k) ?_
    show OGo p e below _ (T53.setTop (mkF m 73 #[.val (.int i0), .val (.int i1), .val (.int i2), .val (.int i3), .val (.int i4), .val (.int ((1 : Int32) + (i0 &&& (3 : Int32)))), .val (.int (own_al i1)), .val (.int (own_al i2)), .val (.int (own_al i3)), .val (.int (own_al i4)), .val (.ref b_47), .val (.ref b_49), .val (.ref b_47)] [(.ref b_47)]))
    refine OGo.by (fun _ k => XS.iconst X53.here hx rfl (hb hby at_73) k) ?_
    show OGo p e below _ (T53.setTop (mkF m 74 #[.val (.int i0), .val (.int i1), .val (.int i2), .val (.int i3), .val (.int i4), .val (.int ((1 : Int32) + (i0 &&& (3 : Int32)))), .val (.int (own_al i1)), .val (.int (own_al i2)), .val (.int (own_al i3)), .val (.int (own_al i4)), .val (.ref b_47), .val (.ref b_49), .val (.ref b_47)] [(.int (0 : Int32)), (.ref b_47)]))
    have hsw59 : ∀ d ∈ StrChars.Road.wordsChN, d.before av0 Z = true := fun d hd => hw d ((by decide +kernel : ∀ d ∈ StrChars.Road.wordsChN, d ∈ tables_1) d hd)
    obtain ⟨cq59, kq59, q59a, q59b, q59c⟩ := isOf hZ49 e53 f54
    obtain ⟨v59, _, ⟨T59, L59, k59, n59⟩, -, X59, ⟨Lc59, hQ59, l59, y59, z59⟩, st59⟩ := X53.virtualBack hx (y := (⟨"java/lang/String", "charAt", "(I)C"⟩ : MethodName)) (z := (⟨"java/lang/String", "charAt", "(I)C"⟩ : MethodName)) hown49 (mvT hZ49 (hw _ (List.mem_of_getElem? (i := 103) rfl))) (mvT hZ49 (hw _ (List.mem_of_getElem? (i := 65) rfl))) (notFace_of_selects (args := #[]) (mvT hZ49 (hw _ (List.mem_of_getElem? (i := 67) rfl)))) (mvT hZ49 (hw _ (List.mem_of_getElem? (i := 67) rfl))) (mvT hZ49 (hw _ (List.mem_of_getElem? (i := 66) rfl))) (by decide) (StrChars.Road.chN (W := 0) hZ49 hsw59 (kI := 4) (hw _ (List.mem_of_getElem? (i := 9) rfl)) f54 f55 f56 f57 hcd48 hbd48 (S1.ext f58.2) hcz (S2.ext f58.2) fm_isref (Nat.le_of_ble_eq_true rfl) (i := 0) (Nat.le_of_ble_eq_true rfl) (j := (0 : Int32)) rfl (by decide) (by decide)) q59a q59c (g := (mkF m 74 #[.val (.int i0), .val (.int i1), .val (.int i2), .val (.int i3), .val (.int i4), .val (.int ((1 : Int32) + (i0 &&& (3 : Int32)))), .val (.int (own_al i1)), .val (.int (own_al i2)), .val (.int (own_al i3)), .val (.int (own_al i4)), .val (.ref b_47), .val (.ref b_49), .val (.ref b_47)] [(.int (0 : Int32)), (.ref b_47)])) rfl (by rw [hml]; rfl) (Steps.refl _) (argsL := [(.int (0 : Int32))]) (rest := []) (lenOf own_pd5 rfl) rfl (by show 2 * 0 + _ ≤ _; exact Nat.le_of_eq rfl) (hb hby at_74) (fun _ _ => ⟨rfl, e53, (by decide : 6 + 0 ≤ _), (by decide : 33 + 0 ≤ _)⟩)
    dsimp only [Pt.U, Pt.locs, Pt.cells, Pt.slots] at X59 l59 y59 z59 st59 hQ59
    subst l59 y59 z59
    obtain ⟨rfl, rfl, e59⟩ := hQ59
    have N59 := Fr.app N53 (Fr.nil n0)
    refine OGo.of st59 ?_
    show OGo p e below _ (T59.setTop (mkF m 77 #[.val (.int i0), .val (.int i1), .val (.int i2), .val (.int i3), .val (.int i4), .val (.int ((1 : Int32) + (i0 &&& (3 : Int32)))), .val (.int (own_al i1)), .val (.int (own_al i2)), .val (.int (own_al i3)), .val (.int (own_al i4)), .val (.ref b_47), .val (.ref b_49), .val (.ref b_47)] [(.int (nar .char (own_al i1)))]))
    refine OGo.by (fun _ k => XS.iload X59.here hx rfl (hb hby at_77) rfl k) ?_
    show OGo p e below _ (T59.setTop (mkF m 79 #[.val (.int i0), .val (.int i1), .val (.int i2), .val (.int i3), .val (.int i4), .val (.int ((1 : Int32) + (i0 &&& (3 : Int32)))), .val (.int (own_al i1)), .val (.int (own_al i2)), .val (.int (own_al i3)), .val (.int (own_al i4)), .val (.ref b_47), .val (.ref b_49), .val (.ref b_47)] [(.int (own_al i1)), (.int (nar .char (own_al i1)))]))
    refine OGo.by (fun _ k => XS.icmpNo X59.here hx rfl (hb hby at_79) rfl (teq (own_al_ok i1).2.1).2 k) ?_
    show OGo p e below _ (T59.setTop (mkF m 82 #[.val (.int i0), .val (.int i1), .val (.int i2), .val (.int i3), .val (.int i4), .val (.int ((1 : Int32) + (i0 &&& (3 : Int32)))), .val (.int (own_al i1)), .val (.int (own_al i2)), .val (.int (own_al i3)), .val (.int (own_al i4)), .val (.ref b_47), .val (.ref b_49), .val (.ref b_47)] []))
    refine OGo.by (fun _ k => XS.aload X59.here hx rfl (hb hby at_82) rfl rfl k) ?_
    show OGo p e below _ (T59.setTop (mkF m 84 #[.val (.int i0), .val (.int i1), .val (.int i2), .val (.int i3), .val (.int i4), .val (.int ((1 : Int32) + (i0 &&& (3 : Int32)))), .val (.int (own_al i1)), .val (.int (own_al i2)), .val (.int (own_al i3)), .val (.int (own_al i4)), .val (.ref b_47), .val (.ref b_49), .val (.ref b_47)] [(.ref b_47)]))
    refine OGo.by (fun _ k => XS.aload X59.here hx rfl (hb hby at_84) rfl rfl k) ?_
    show OGo p e below _ (T59.setTop (mkF m 86 #[.val (.int i0), .val (.int i1), .val (.int i2), .val (.int i3), .val (.int i4), .val (.int ((1 : Int32) + (i0 &&& (3 : Int32)))), .val (.int (own_al i1)), .val (.int (own_al i2)), .val (.int (own_al i3)), .val (.int (own_al i4)), .val (.ref b_47), .val (.ref b_49), .val (.ref b_47)] [(.ref b_47), (.ref b_47)]))
    obtain ⟨cq60, kq60, q60a, q60b, q60c⟩ := isOf hZ49 e59 f54
    obtain ⟨_, _, ⟨T60, L60, k60, n60⟩, -, X60, ⟨Lc60, hQ60, l60, y60, z60⟩, st60⟩ := X59.virtualBack hx (y := (⟨"java/lang/String", "equals", "(Ljava/lang/Object;)Z"⟩ : MethodName)) (z := (⟨"java/lang/String", "equals", "(Ljava/lang/Object;)Z"⟩ : MethodName)) hown49 (mvT hZ49 (hw _ (List.mem_of_getElem? (i := 104) rfl))) (mvT hZ49 (hw _ (List.mem_of_getElem? (i := 105) rfl))) (notFace_of_selects (args := #[]) (mvT hZ49 (hw _ (List.mem_of_getElem? (i := 107) rfl)))) (mvT hZ49 (hw _ (List.mem_of_getElem? (i := 107) rfl))) (mvT hZ49 (hw _ (List.mem_of_getElem? (i := 106) rfl))) (by decide) (backOf (W := 0) (rmSame l Z av0 hw [] b_47 T49.heap n0 (Nat.le_trans Z0 K49.1)) hZ49 (hw _ (List.mem_of_getElem? (i := 108) rfl)) (hw _ (List.mem_of_getElem? (i := 10) rfl)) (by decide) (by decide)) q60a q60c (g := (mkF m 86 #[.val (.int i0), .val (.int i1), .val (.int i2), .val (.int i3), .val (.int i4), .val (.int ((1 : Int32) + (i0 &&& (3 : Int32)))), .val (.int (own_al i1)), .val (.int (own_al i2)), .val (.int (own_al i3)), .val (.int (own_al i4)), .val (.ref b_47), .val (.ref b_49), .val (.ref b_47)] [(.ref b_47), (.ref b_47)])) rfl (by rw [hml]; rfl) (Steps.refl _) (argsL := [(.ref b_47)]) (rest := []) (lenOf own_pd10 rfl) rfl (by show 2 * 0 + _ ≤ _; exact Nat.le_of_eq rfl) (hb hby at_86) (fun _ _ => ⟨rfl, e59, (by decide : 6 + 0 ≤ _), (by decide : 33 + 0 ≤ _)⟩)
    dsimp only [Pt.U, Pt.locs, Pt.cells, Pt.slots] at X60 l60 y60 z60 st60 hQ60
    subst l60 y60 z60
    obtain ⟨rfl, N60q, e60⟩ := hQ60
    have N60 := Fr.app N59 N60q
    refine OGo.of st60 ?_
    show OGo p e below _ (T60.setTop (mkF m 89 #[.val (.int i0), .val (.int i1), .val (.int i2), .val (.int i3), .val (.int i4), .val (.int ((1 : Int32) + (i0 &&& (3 : Int32)))), .val (.int (own_al i1)), .val (.int (own_al i2)), .val (.int (own_al i3)), .val (.int (own_al i4)), .val (.ref b_47), .val (.ref b_49), .val (.ref b_47)] [(.int (1 : Int32))]))
    refine OGo.by (fun _ k => XS.ifNo X60.here hx rfl (hb hby at_89) rfl ((if0 _ _).trans (feq (by decide : ¬ ((1 : Int32) = (0 : Int32)))).1) k) ?_
    show OGo p e below _ (T60.setTop (mkF m 92 #[.val (.int i0), .val (.int i1), .val (.int i2), .val (.int i3), .val (.int i4), .val (.int ((1 : Int32) + (i0 &&& (3 : Int32)))), .val (.int (own_al i1)), .val (.int (own_al i2)), .val (.int (own_al i3)), .val (.int (own_al i4)), .val (.ref b_47), .val (.ref b_49), .val (.ref b_47)] []))
    refine OGo.by (fun _ k => XS.iconst X60.here hx rfl (hb hby at_92) k) ?_
    show OGo p e below _ (T60.setTop (mkF m 93 #[.val (.int i0), .val (.int i1), .val (.int i2), .val (.int i3), .val (.int i4), .val (.int ((1 : Int32) + (i0 &&& (3 : Int32)))), .val (.int (own_al i1)), .val (.int (own_al i2)), .val (.int (own_al i3)), .val (.int (own_al i4)), .val (.ref b_47), .val (.ref b_49), .val (.ref b_47)] [(.int (1 : Int32))]))
    refine OGo.by (fun _ k => XS.goto X60.here hx rfl (pc0 := 93) (pc' := 97) rfl (hb hby at_93) (by decide) (by decide) k) ?_
    show OGo p e below _ (T60.setTop (mkF m 97 #[.val (.int i0), .val (.int i1), .val (.int i2), .val (.int i3), .val (.int i4), .val (.int ((1 : Int32) + (i0 &&& (3 : Int32)))), .val (.int (own_al i1)), .val (.int (own_al i2)), .val (.int (own_al i3)), .val (.int (own_al i4)), .val (.ref b_47), .val (.ref b_49), .val (.ref b_47)] [(.int (1 : Int32))]))
    obtain ⟨fs, hr, hrun, hended, hRE⟩ := Stand.leaveW (s := s) (vm₁ := T49.vm) X60 hS49 (by rw [e60]; exact (Nat.le_refl T49.heap.size)) (v := some (.int (1 : Int32))) (fun h => by rw [Bd.returns] at h; cases h)
    refine OGo.ret (retN X60 hx (t := .boolean) Bd.returns (by simp) (hb hby at_97) hr) hrun hended ⟨_, _, rfl, ?_, hRE.1, hRE.2.1, hRE.2.2.1, hRE.2.2.2.mono (by decide) (by decide)⟩
    show Q_rm0 Z i0 i1 i2 i3 i4 cz fm h0 n0 _ T60.heap _
    rw [e60]
    exact ⟨rfl, N60⟩
set_option maxRecDepth 65536 in
set_option maxHeartbeats 40000000 in
theorem comes_1 {Post : Tables → Env → Array Value → State → Outcome → State → Prop} (hpost : ∀ tb e args s v u, (limb_1_1.after args s (.returned v) u = true ∧ limb_1_2.after args s (.returned v) u = true ∧ True) → ReturnedEndW s (.returned v) u (Jvm.fieldLocs frame_1_writes args s ++ Jvm.arrayLocs frame_1_arrays args s ++ Jvm.staticLocs frame_1_statics s) 24 1152 → Post tb e args s (.returned v) u) :
    ArmFor flags0 classFile x code maxLocals ret World_1 tables_1 room_1 Calls_1 rest_1 Pre_1 Post := by
  intro l hfl _ _ p e ha hc hk s m args below hf hA hF happ hP
  obtain ⟨hcalls, hrest, hpre⟩ := hP
  obtain ⟨-, -, -, hnamed, -, -, -, hat⟩ := (Spec.applies_iff hf).mp happ
  obtain ⟨hg, hn⟩ := and_e (Cond.before_iff.mp (show (Jvm.Cond.and given_1 narrow_1).before args s = true from hpre))
  obtain ⟨hg0, hgr⟩ := and_e hg
  obtain ⟨hv0, hgr0⟩ := and_e hgr
  obtain ⟨hv1, hgr1⟩ := and_e hgr0
  obtain ⟨hv2, hgr2⟩ := and_e hgr1
  obtain ⟨hv3, hgr3⟩ := and_e hgr2
  obtain ⟨w0, w1, w2, w3, w4, rfl⟩ : ∃ w0 w1 w2 w3 w4 : Value, args = #[w0, w1, w2, w3, w4] := by
    have hs : args.size = 5 := by simpa [Cond.value, given_1] using hg0
    obtain ⟨L⟩ := args
    match L, hs with
    | [w0, w1, w2, w3, w4], _ => exact ⟨w0, w1, w2, w3, w4, rfl⟩
  have hw := fun d (hd : d ∈ tables_1) => atoms_spec (ws := Jvm.Cond.code x code maxLocals ret :: tables_1) hat d (List.mem_cons_of_mem _ hd)
  have hfit : Fit s := fun {y c} hc i hi => by
    obtain ⟨ha, rfl⟩ := Array.getElem?_eq_some_iff.mp hc
    have q := List.all_eq_true.mp ((Array.all_eq_true_iff_forall_mem.mp hF) _ (Array.getElem_mem ha)) i (List.mem_range.mpr hi)
    simpa [Array.getElem?_eq_getElem hi] using q
  obtain ⟨hsets, hown0⟩ := atoms_of _ (rest_1_c_eq ▸ (show rest_1_c.before _ s = true from hrest))
  have hr0 := Cond.before_iff.mp hown0
  obtain ⟨i0, ei0⟩ := is_v hv0
  obtain rfl : w0 = (.int i0) := Option.some.inj ei0
  obtain ⟨i1, ei1⟩ := is_v hv1
  obtain rfl : w1 = (.int i1) := Option.some.inj ei1
  obtain ⟨i2, ei2⟩ := is_v hv2
  obtain rfl : w2 = (.int i2) := Option.some.inj ei2
  obtain ⟨i3, ei3⟩ := is_v hv3
  obtain rfl : w3 = (.int i3) := Option.some.inj ei3
  obtain ⟨i4, ei4⟩ := is_v hgr3
  obtain rfl : w4 = (.int i4) := Option.some.inj ei4
  obtain ⟨cz, vcz⟩ := is_v (Cond.before_iff.mp (hsets _ (List.mem_of_getElem? (i := 1) rfl)))
  have S1 := Sta.start vcz (Or.inl (hsets _ (List.mem_of_getElem? (i := 0) rfl)))
  have hcz : ¬ cz = (0 : Int32) := gotF (Cond.eq_ints vcz (Term.int_eval 0)) (not_v (Cond.before_iff.mp (hsets _ (List.mem_of_getElem? (i := 2) rfl))))
  obtain ⟨fm, vfm, rfm⟩ := isR_v (Cond.before_iff.mp (hsets _ (List.mem_of_getElem? (i := 8) rfl)))
  have S2 := Sta.start vfm (Or.inl (hsets _ (List.mem_of_getElem? (i := 7) rfl)))
  obtain ⟨n, o, h1, h2, h3, _, L, rfl, ⟨rfl, N⟩, hq⟩ := rm0 l s _ hw tables_1 i0 i1 i2 i3 i4 cz fm s.heap s.heap.size (Nat.le_refl _) (Old.start s) S1 hcz S2 rfm p e ha hc hk s m _ below hf ((Spec.applies_iff_loose hf).mp happ).1 ⟨rfl, State.Warmed39.refl s, rfl⟩ trivial
  refine ⟨n, _, h1, h2, h3, hpost _ _ _ _ _ _ ⟨Cond.after_iff.mpr rfl, Cond.after_iff.mpr (eq_i res_at (Term.int_eval (1)) rfl), trivial⟩ ⟨hq.1, hq.2.1, hq.2.2.1, (hq.2.2.2.sift fun y hy => Or.inr (N y hy)).mono (by decide) (by decide)⟩⟩
theorem main_1_1 : Claimed_1_1 := comes_1 fun _ _ _ _ _ _ h hF => ⟨h.1, hF⟩
theorem main_1_2 : Claimed_1_2 := comes_1 fun _ _ _ _ _ _ h hF => ⟨h.2.1, hF⟩
end Jvm.Pilot.@@N@@
namespace Jvm.Pilot.@@N@@
open Jvm Jvm.ClassFile Sem Op Lib Jvm.Free Jvm.Stand Jvm.Pilot.@@N@@.Jvm.D
/-! MADE BY PROGRAM (witnessworld.py) out of the Statement's table words and the real class files: 21 classes; the members and pool entries that the words name. The judged class is class 1, her method 3. -/
namespace start1
open Jvm.ClassFile
def u (s : String) : CpInfo := .utf8 (stringToUtf16 s)
/-- a pool by its gaps: so many unusable entries, then the entry; so many at the end -/
def gap : Nat → List CpInfo → List CpInfo
  | 0, r => r
  | n + 1, r => .unusable :: gap n r
def poolList (es : List (Nat × CpInfo)) (last : Nat) : List CpInfo := es.foldr (fun e r => gap e.1 (e.2 :: r)) (gap last [])
def pool (es : List (Nat × CpInfo)) (last : Nat) : Array CpInfo := ⟨poolList es last⟩
def fileOf (pool : Array CpInfo) (this : Nat) (attrs : Array Attribute := #[]) (ms : Array MethodInfo := #[]) (fl : Nat := 33) (sup : Nat := 0) (ifs : Array Nat := #[]) (fds : Array FieldInfo := #[]) : ClassFile where
  minorVersion := 0
  majorVersion := 65
  constantPool := pool
  accessFlags := fl
  thisClass := this
  superClass := sup
  interfaces := ifs
  fields := fds
  methods := ms
  attributes := attrs
def plain (name : String) (sup : Option ClassId) : Class where
  name := name
  kind := .ordinary
  loader := none
  accessFlags := 33
  super := sup
  interfaces := #[]
  cf := none
  fields := #[]
  methods := #[]
  instanceTypes := #[]
  staticTypes := #[]
  resolved := #[]
  callSites := []
  init := .initialized
  statics := none
  mirror := none

def pool0 : Array CpInfo := pool [(5, u "<init>"), (0, u "()V"), (1, .class_ 10), (1, u "java/lang/Object")] 113

def k0c0 : Code := { maxStack := 0, maxLocals := 1, code := object_method_1_code, exceptionTable := #[], attributes := #[] }
def k0m0 : Method := { name := "<init>", desc := "()V", sig := { parameters := [], returnType := none }, accessFlags := 1, code := some k0c0 }
/-- java/lang/Object -/
def k0 : Class := { plain "java/lang/Object" none with
  accessFlags := 33
  interfaces := #[]
  cf := some (fileOf pool0 8 #[] #[{ accessFlags := 1, nameIndex := 5, descriptorIndex := 6, attributes := #[] }] 33 0 #[] #[])
  fields := #[]
  methods := #[k0m0]
  instanceTypes := #[]
  staticTypes := #[]
  resolved := Array.replicate 124 none
  statics := none }

def pool1 : Array CpInfo := pool [(2, .class_ 4), (1, u "java/lang/Object"), (0, u "<init>"), (0, u "()V"), (0, .integer 2147483647), (0, .class_ 9), (0, u "java/lang/String"), (0, .methodref 8 11), (0, .nameAndType 5 12), (0, u "([C)V"), (0, .methodref 14 15), (0, .class_ 16), (0, .nameAndType 17 18), (0, u "com/example/trusty_lock/trustylock/LockNameOfPinLaw"), (0, u "allowed"), (0, u "(I)C"), (0, .methodref 14 20), (0, .nameAndType 21 22), (0, u "make"), (0, u "(ICCCC)Ljava/lang/String;"), (0, .methodref 24 25), (0, .class_ 26), (0, .nameAndType 27 28), (0, u "com/example/trusty_lock/trustylock/LockName"), (0, u "of"), (0, u "(Ljava/lang/String;)Lcom/example/trusty_lock/trustylock/LockName;"), (0, .methodref 24 30), (0, .nameAndType 31 32), (0, u "toString"), (0, u "()Ljava/lang/String;"), (0, .methodref 8 34), (0, .nameAndType 35 36), (0, u "length"), (0, u "()I"), (0, .methodref 8 38), (0, .nameAndType 39 18), (0, u "charAt"), (0, .methodref 8 41), (0, .nameAndType 42 43), (0, u "equals"), (0, u "(Ljava/lang/Object;)Z"), (3, u "law"), (0, u "(IIIII)Z")] 2

def k1m0 : Method := { name := "<init>", desc := "()V", sig := { parameters := [], returnType := none }, accessFlags := 1, code := none }
def k1c1 : Code := { maxStack := 3, maxLocals := 2, code := method_2_code, exceptionTable := #[], attributes := #[] }
def k1m1 : Method := { name := "allowed", desc := "(I)C", sig := { parameters := [.int], returnType := some .char }, accessFlags := 10, code := some k1c1 }
def k1c2 : Code := { maxStack := 6, maxLocals := 5, code := method_3_code, exceptionTable := #[], attributes := #[] }
def k1m2 : Method := { name := "make", desc := "(ICCCC)Ljava/lang/String;", sig := { parameters := [.int, .char, .char, .char, .char], returnType := some (.object "java/lang/String") }, accessFlags := 10, code := some k1c2 }
def k1c3 : Code := { maxStack := 5, maxLocals := 13, code := code, exceptionTable := #[], attributes := #[] }
def k1m3 : Method := { name := "law", desc := "(IIIII)Z", sig := { parameters := [.int, .int, .int, .int, .int], returnType := some .boolean }, accessFlags := 9, code := some k1c3 }
/-- com/example/trusty_lock/trustylock/LockNameOfPinLaw -/
def k1 : Class := { plain "com/example/trusty_lock/trustylock/LockNameOfPinLaw" (some 0) with
  accessFlags := 49
  interfaces := #[]
  cf := some (fileOf pool1 14 #[] #[{ accessFlags := 1, nameIndex := 5, descriptorIndex := 6, attributes := #[] }, { accessFlags := 10, nameIndex := 17, descriptorIndex := 18, attributes := #[] }, { accessFlags := 10, nameIndex := 21, descriptorIndex := 22, attributes := #[] }, { accessFlags := 9, nameIndex := 47, descriptorIndex := 48, attributes := #[] }] 49 2 #[] #[])
  fields := #[]
  methods := #[k1m0, k1m1, k1m2, k1m3]
  instanceTypes := #[]
  staticTypes := #[]
  resolved := Array.replicate 51 none
  statics := none }

def pool2 : Array CpInfo := pool [(1, .class_ 2), (0, u "java/io/Serializable"), (0, .class_ 4), (0, u "java/lang/Object")] 2

/-- java/io/Serializable -/
def k2 : Class := { plain "java/io/Serializable" (some 0) with
  accessFlags := 1537
  interfaces := #[]
  cf := some (fileOf pool2 1 #[] #[] 1537 3 #[] #[])
  fields := #[]
  methods := #[]
  instanceTypes := #[]
  staticTypes := #[]
  resolved := Array.replicate 7 none
  statics := none }

def pool3 : Array CpInfo := pool [(1, .class_ 2), (0, u "java/lang/Comparable"), (0, .class_ 4), (0, u "java/lang/Object")] 7

/-- java/lang/Comparable -/
def k3 : Class := { plain "java/lang/Comparable" (some 0) with
  accessFlags := 1537
  interfaces := #[]
  cf := some (fileOf pool3 1 #[] #[] 1537 3 #[] #[])
  fields := #[]
  methods := #[]
  instanceTypes := #[]
  staticTypes := #[]
  resolved := Array.replicate 12 none
  statics := none }

def pool4 : Array CpInfo := pool [(2, .class_ 4), (1, u "java/lang/CharSequence"), (42, .class_ 48), (0, u "java/lang/CharSequence$1CodePointIterator"), (10, .class_ 60), (0, u "java/lang/CharSequence$1CharIterator"), (5, .class_ 67), (0, u "java/lang/Object")] 63

/-- java/lang/CharSequence -/
def k4 : Class := { plain "java/lang/CharSequence" (some 0) with
  accessFlags := 1537
  interfaces := #[]
  cf := some (fileOf pool4 2 #[.nestMembers #[47, 59]] #[] 1537 66 #[] #[])
  fields := #[]
  methods := #[]
  instanceTypes := #[]
  staticTypes := #[]
  resolved := Array.replicate 131 none
  statics := none }

def pool5 : Array CpInfo := pool [(1, .class_ 2), (0, u "java/lang/constant/Constable"), (0, .class_ 4), (0, u "java/lang/Object")] 6

/-- java/lang/constant/Constable -/
def k5 : Class := { plain "java/lang/constant/Constable" (some 0) with
  accessFlags := 1537
  interfaces := #[]
  cf := some (fileOf pool5 1 #[] #[] 1537 3 #[] #[])
  fields := #[]
  methods := #[]
  instanceTypes := #[]
  staticTypes := #[]
  resolved := Array.replicate 11 none
  statics := none }

def pool6 : Array CpInfo := pool [(1, .class_ 2), (0, u "java/lang/constant/ConstantDesc"), (0, .class_ 4), (0, u "java/lang/Object")] 32

/-- java/lang/constant/ConstantDesc -/
def k6 : Class := { plain "java/lang/constant/ConstantDesc" (some 0) with
  accessFlags := 1537
  interfaces := #[]
  cf := some (fileOf pool6 1 #[] #[] 1537 3 #[] #[])
  fields := #[]
  methods := #[]
  instanceTypes := #[]
  staticTypes := #[]
  resolved := Array.replicate 37 none
  statics := none }

def pool7 : Array CpInfo := pool [(1, .methodref 2 3), (0, .class_ 4), (0, .nameAndType 5 6), (0, u "java/lang/Object"), (0, u "<init>"), (0, u "()V"), (2, .fieldref 10 11), (0, .class_ 12), (0, .nameAndType 13 14), (0, u "java/lang/String"), (0, u "value"), (0, u "[B"), (0, .fieldref 10 16), (0, .nameAndType 17 18), (0, u "coder"), (0, u "B"), (2, u "hash"), (0, u "I"), (2, u "hashIsZero"), (0, u "Z"), (0, .methodref 10 28), (0, .nameAndType 5 29), (0, u "([CIILjava/lang/Void;)V"), (8, .fieldref 10 39), (0, .nameAndType 40 26), (0, u "COMPACT_STRINGS"), (1, .class_ 44), (1, u "java/lang/StringUTF16"), (0, u "compress"), (1, .methodref 42 48), (0, .nameAndType 49 50), (0, u "coderFromArrayLen"), (0, u "([BI)B"), (56, .class_ 109), (1, u "java/lang/StringLatin1"), (32, u "()Z"), (34, .methodref 42 178), (0, .nameAndType 45 179), (0, u "([CII)[B"), (154, u "()I"), (0, .methodref 10 336), (0, .nameAndType 17 337), (0, u "()B"), (25, u "([BI)C"), (27, u "(II)V"), (35, u "(I)C"), (64, .methodref 10 493), (0, .nameAndType 494 142), (0, u "isLatin1"), (0, .methodref 107 496), (0, .nameAndType 497 363), (0, u "charAt"), (3, u "checkIndex"), (5, u "length"), (35, u "equals"), (29, u "(Ljava/lang/Object;)Z"), (1, .class_ 576), (0, u "java/lang/CharSequence"), (22, u "CASE_INSENSITIVE_ORDER"), (0, u "Ljava/util/Comparator;"), (91, u "isEmpty"), (317, u "([C)V"), (42, .fieldref 1054 1055), (0, .class_ 1056), (0, .nameAndType 1057 1058), (0, u "jdk/internal/util/Preconditions"), (0, u "SIOOBE_FORMATTER"), (0, u "Ljava/util/function/BiFunction;"), (0, .methodref 1054 1060), (0, .nameAndType 501 1061), (0, u "(IILjava/util/function/BiFunction;)I"), (39, u "serialPersistentFields"), (0, u "[Ljava/io/ObjectStreamField;"), (0, .class_ 1104), (0, u "java/lang/String$CaseInsensitiveComparator"), (1, .class_ 1107), (0, u "java/io/Serializable"), (0, .class_ 1109), (0, u "java/lang/Comparable"), (0, .class_ 1111), (0, u "java/lang/constant/Constable"), (0, .class_ 1113), (0, u "java/lang/constant/ConstantDesc"), (2, u "serialVersionUID"), (0, u "J"), (3, u "REPL"), (0, u "C"), (2, u "LATIN1"), (1, u "UTF16")] 323

def k7m0 : Method := { name := "<init>", desc := "()V", sig := { parameters := [], returnType := none }, accessFlags := 1, code := none }
def k7c1 : Code := { maxStack := 5, maxLocals := 2, code := jdk_42_method_3_code, exceptionTable := #[], attributes := #[] }
def k7m1 : Method := { name := "<init>", desc := "([C)V", sig := { parameters := [(.array .char)], returnType := none }, accessFlags := 1, code := some k7c1 }
def k7c2 : Code := { maxStack := 2, maxLocals := 1, code := jdk_42_method_54_code, exceptionTable := #[], attributes := #[] }
def k7m2 : Method := { name := "length", desc := "()I", sig := { parameters := [], returnType := some .int }, accessFlags := 1, code := some k7c2 }
def k7c3 : Code := { maxStack := 1, maxLocals := 1, code := jdk_42_method_55_code, exceptionTable := #[], attributes := #[] }
def k7m3 : Method := { name := "isEmpty", desc := "()Z", sig := { parameters := [], returnType := some .boolean }, accessFlags := 1, code := some k7c3 }
def k7c4 : Code := { maxStack := 2, maxLocals := 2, code := jdk_42_method_56_code, exceptionTable := #[], attributes := #[] }
def k7m4 : Method := { name := "charAt", desc := "(I)C", sig := { parameters := [.int], returnType := some .char }, accessFlags := 1, code := some k7c4 }
def k7c5 : Code := { maxStack := 2, maxLocals := 3, code := jdk_42_method_66_code, exceptionTable := #[], attributes := #[] }
def k7m5 : Method := { name := "equals", desc := "(Ljava/lang/Object;)Z", sig := { parameters := [(.object "java/lang/Object")], returnType := some .boolean }, accessFlags := 1, code := some k7c5 }
def k7c6 : Code := { maxStack := 4, maxLocals := 6, code := jdk_42_method_149_code, exceptionTable := #[], attributes := #[] }
def k7m6 : Method := { name := "<init>", desc := "([CIILjava/lang/Void;)V", sig := { parameters := [(.array .char), .int, .int, (.object "java/lang/Void")], returnType := none }, accessFlags := 2, code := some k7c6 }
def k7c7 : Code := { maxStack := 1, maxLocals := 1, code := jdk_42_method_152_code, exceptionTable := #[], attributes := #[] }
def k7m7 : Method := { name := "coder", desc := "()B", sig := { parameters := [], returnType := some .byte }, accessFlags := 0, code := some k7c7 }
def k7c8 : Code := { maxStack := 1, maxLocals := 1, code := jdk_42_method_154_code, exceptionTable := #[], attributes := #[] }
def k7m8 : Method := { name := "isLatin1", desc := "()Z", sig := { parameters := [], returnType := some .boolean }, accessFlags := 0, code := some k7c8 }
def k7c9 : Code := { maxStack := 3, maxLocals := 2, code := jdk_42_method_155_code, exceptionTable := #[], attributes := #[] }
def k7m9 : Method := { name := "checkIndex", desc := "(II)V", sig := { parameters := [.int, .int], returnType := none }, accessFlags := 8, code := some k7c9 }
/-- java/lang/String -/
def k7 : Class := { plain "java/lang/String" (some 0) with
  accessFlags := 49
  interfaces := #[2, 3, 4, 5, 6]
  cf := some (fileOf pool7 10 #[.nestMembers #[1103]] #[{ accessFlags := 1, nameIndex := 5, descriptorIndex := 6, attributes := #[] }, { accessFlags := 1, nameIndex := 5, descriptorIndex := 1010, attributes := #[] }, { accessFlags := 1, nameIndex := 507, descriptorIndex := 334, attributes := #[] }, { accessFlags := 1, nameIndex := 692, descriptorIndex := 142, attributes := #[] }, { accessFlags := 1, nameIndex := 497, descriptorIndex := 427, attributes := #[] }, { accessFlags := 1, nameIndex := 543, descriptorIndex := 573, attributes := #[] }, { accessFlags := 2, nameIndex := 5, descriptorIndex := 29, attributes := #[] }, { accessFlags := 0, nameIndex := 17, descriptorIndex := 337, attributes := #[] }, { accessFlags := 0, nameIndex := 494, descriptorIndex := 142, attributes := #[] }, { accessFlags := 8, nameIndex := 501, descriptorIndex := 391, attributes := #[] }] 49 2 #[1106, 1108, 575, 1110, 1112] #[{ accessFlags := 18, nameIndex := 13, descriptorIndex := 14, attributes := #[] }, { accessFlags := 18, nameIndex := 17, descriptorIndex := 18, attributes := #[] }, { accessFlags := 2, nameIndex := 21, descriptorIndex := 22, attributes := #[] }, { accessFlags := 2, nameIndex := 25, descriptorIndex := 26, attributes := #[] }, { accessFlags := 26, nameIndex := 1116, descriptorIndex := 1117, attributes := #[] }, { accessFlags := 24, nameIndex := 40, descriptorIndex := 26, attributes := #[] }, { accessFlags := 26, nameIndex := 1101, descriptorIndex := 1102, attributes := #[] }, { accessFlags := 26, nameIndex := 1121, descriptorIndex := 1122, attributes := #[] }, { accessFlags := 25, nameIndex := 599, descriptorIndex := 600, attributes := #[] }, { accessFlags := 24, nameIndex := 1125, descriptorIndex := 18, attributes := #[] }, { accessFlags := 24, nameIndex := 1127, descriptorIndex := 18, attributes := #[] }])
  fields := #[{ name := "value", type := (.array .byte), accessFlags := 18, slot := 0, constantValue := 0 }, { name := "coder", type := .byte, accessFlags := 18, slot := 1, constantValue := 0 }, { name := "hash", type := .int, accessFlags := 2, slot := 2, constantValue := 0 }, { name := "hashIsZero", type := .boolean, accessFlags := 2, slot := 3, constantValue := 0 }, { name := "serialVersionUID", type := .long, accessFlags := 26, slot := 0, constantValue := 0 }, { name := "COMPACT_STRINGS", type := .boolean, accessFlags := 24, slot := 1, constantValue := 0 }, { name := "serialPersistentFields", type := (.array (.object "java/io/ObjectStreamField")), accessFlags := 26, slot := 2, constantValue := 0 }, { name := "REPL", type := .char, accessFlags := 26, slot := 3, constantValue := 0 }, { name := "CASE_INSENSITIVE_ORDER", type := (.object "java/util/Comparator"), accessFlags := 25, slot := 4, constantValue := 0 }, { name := "LATIN1", type := .byte, accessFlags := 24, slot := 5, constantValue := 0 }, { name := "UTF16", type := .byte, accessFlags := 24, slot := 6, constantValue := 0 }]
  methods := #[k7m0, k7m1, k7m2, k7m3, k7m4, k7m5, k7m6, k7m7, k7m8, k7m9]
  instanceTypes := #[(.array .byte), .byte, .int, .boolean]
  staticTypes := #[.long, .boolean, (.array (.object "java/io/ObjectStreamField")), .char, (.object "java/util/Comparator"), .byte, .byte]
  resolved := Array.replicate 1451 none
  statics := some 0 }

def pool8 : Array CpInfo := pool [(6, .class_ 8), (1, u "java/lang/Object"), (0, u "<init>"), (0, u "()V"), (1, .class_ 14), (1, u "java/lang/StringUTF16"), (31, u "$assertionsDisabled"), (0, u "Z"), (13, u "HI_BYTE_SHIFT"), (0, u "I"), (2, u "LO_BYTE_SHIFT"), (49, .methodref 12 116), (0, .nameAndType 117 118), (0, u "compress"), (0, u "([CI[BII)I"), (3, u "([CII)[B"), (138, u "coderFromArrayLen"), (0, u "([BI)B"), (106, .class_ 371), (1, u "java/lang/StringUTF16$LinesSpliterator"), (58, u "MAX_LENGTH"), (196, .class_ 628), (0, u "java/lang/StringUTF16$CodePointsSpliterator"), (0, .class_ 630), (0, u "java/lang/StringUTF16$CharsSpliterator")] 4

def k8m0 : Method := { name := "<init>", desc := "()V", sig := { parameters := [], returnType := none }, accessFlags := 0, code := none }
def k8c1 : Code := { maxStack := 2, maxLocals := 2, code := jdk_52_method_15_code, exceptionTable := #[], attributes := #[] }
def k8m1 : Method := { name := "coderFromArrayLen", desc := "([BI)B", sig := { parameters := [(.array .byte), .int], returnType := some .byte }, accessFlags := 8, code := some k8c1 }
def k8c2 : Code := { maxStack := 5, maxLocals := 6, code := jdk_52_method_16_code, exceptionTable := #[], attributes := #[] }
def k8m2 : Method := { name := "compress", desc := "([CII)[B", sig := { parameters := [(.array .char), .int, .int], returnType := some (.array .byte) }, accessFlags := 9, code := some k8c2 }
def k8c3 : Code := { maxStack := 3, maxLocals := 7, code := jdk_52_method_21_code, exceptionTable := #[], attributes := #[] }
def k8m3 : Method := { name := "compress", desc := "([CI[BII)I", sig := { parameters := [(.array .char), .int, (.array .byte), .int, .int], returnType := some .int }, accessFlags := 9, code := some k8c3 }
/-- java/lang/StringUTF16 -/
def k8 : Class := { plain "java/lang/StringUTF16" (some 0) with
  accessFlags := 48
  interfaces := #[]
  cf := some (fileOf pool8 12 #[.nestMembers #[627, 629, 369]] #[{ accessFlags := 0, nameIndex := 9, descriptorIndex := 10, attributes := #[] }, { accessFlags := 8, nameIndex := 261, descriptorIndex := 262, attributes := #[] }, { accessFlags := 9, nameIndex := 117, descriptorIndex := 122, attributes := #[] }, { accessFlags := 9, nameIndex := 117, descriptorIndex := 118, attributes := #[] }] 48 6 #[] #[{ accessFlags := 26, nameIndex := 61, descriptorIndex := 62, attributes := #[] }, { accessFlags := 26, nameIndex := 65, descriptorIndex := 62, attributes := #[] }, { accessFlags := 24, nameIndex := 430, descriptorIndex := 62, attributes := #[] }, { accessFlags := 4120, nameIndex := 46, descriptorIndex := 47, attributes := #[] }])
  fields := #[{ name := "HI_BYTE_SHIFT", type := .int, accessFlags := 26, slot := 0, constantValue := 0 }, { name := "LO_BYTE_SHIFT", type := .int, accessFlags := 26, slot := 1, constantValue := 0 }, { name := "MAX_LENGTH", type := .int, accessFlags := 24, slot := 2, constantValue := 0 }, { name := "$assertionsDisabled", type := .boolean, accessFlags := 4120, slot := 3, constantValue := 0 }]
  methods := #[k8m0, k8m1, k8m2, k8m3]
  instanceTypes := #[]
  staticTypes := #[.int, .int, .int, .boolean]
  resolved := Array.replicate 635 none
  statics := none }

def pool9 : Array CpInfo := pool [(1, .methodref 2 3), (0, .class_ 4), (0, .nameAndType 5 6), (0, u "java/lang/Object"), (0, u "<init>"), (0, u "()V"), (0, .fieldref 8 9), (0, .class_ 10), (0, .nameAndType 11 12), (0, u "com/example/trusty_lock/trustylock/LockName"), (0, u "name"), (0, u "Ljava/lang/String;"), (0, .string 11), (0, .methodref 15 16), (0, .class_ 17), (0, .nameAndType 18 19), (0, u "java/util/Objects"), (0, u "requireNonNull"), (0, u "(Ljava/lang/Object;Ljava/lang/String;)Ljava/lang/Object;"), (0, .methodref 21 22), (0, .class_ 23), (0, .nameAndType 24 25), (0, u "java/lang/String"), (0, u "isEmpty"), (0, u "()Z"), (0, .methodref 21 27), (0, .nameAndType 28 29), (0, u "length"), (0, u "()I"), (7, .nameAndType 5 38), (0, u "(Ljava/lang/String;)V"), (0, .methodref 21 40), (0, .nameAndType 41 42), (0, u "charAt"), (0, u "(I)C"), (0, .methodref 8 44), (0, .nameAndType 45 46), (0, u "isAllowed"), (0, u "(C)Z"), (10, .methodref 8 37), (22, u "MAX_LENGTH"), (0, u "I"), (4, u "of"), (0, u "(Ljava/lang/String;)Lcom/example/trusty_lock/trustylock/LockName;"), (1, u "toString"), (0, u "()Ljava/lang/String;")] 21

def k9c0 : Code := { maxStack := 2, maxLocals := 2, code := prog_9_method_1_code, exceptionTable := #[], attributes := #[] }
def k9m0 : Method := { name := "<init>", desc := "(Ljava/lang/String;)V", sig := { parameters := [(.object "java/lang/String")], returnType := none }, accessFlags := 2, code := some k9c0 }
def k9c1 : Code := { maxStack := 4, maxLocals := 2, code := prog_9_method_2_code, exceptionTable := #[], attributes := #[] }
def k9m1 : Method := { name := "of", desc := "(Ljava/lang/String;)Lcom/example/trusty_lock/trustylock/LockName;", sig := { parameters := [(.object "java/lang/String")], returnType := some (.object "com/example/trusty_lock/trustylock/LockName") }, accessFlags := 9, code := some k9c1 }
def k9c2 : Code := { maxStack := 2, maxLocals := 1, code := prog_9_method_3_code, exceptionTable := #[], attributes := #[] }
def k9m2 : Method := { name := "isAllowed", desc := "(C)Z", sig := { parameters := [.char], returnType := some .boolean }, accessFlags := 10, code := some k9c2 }
def k9c3 : Code := { maxStack := 1, maxLocals := 1, code := prog_9_method_5_code, exceptionTable := #[], attributes := #[] }
def k9m3 : Method := { name := "toString", desc := "()Ljava/lang/String;", sig := { parameters := [], returnType := some (.object "java/lang/String") }, accessFlags := 1, code := some k9c3 }
/-- com/example/trusty_lock/trustylock/LockName -/
def k9 : Class := { plain "com/example/trusty_lock/trustylock/LockName" (some 0) with
  accessFlags := 49
  interfaces := #[]
  cf := some (fileOf pool9 8 #[] #[{ accessFlags := 2, nameIndex := 5, descriptorIndex := 38, attributes := #[] }, { accessFlags := 9, nameIndex := 86, descriptorIndex := 87, attributes := #[] }, { accessFlags := 10, nameIndex := 45, descriptorIndex := 46, attributes := #[] }, { accessFlags := 1, nameIndex := 89, descriptorIndex := 90, attributes := #[] }] 49 2 #[] #[{ accessFlags := 26, nameIndex := 80, descriptorIndex := 81, attributes := #[] }, { accessFlags := 18, nameIndex := 11, descriptorIndex := 12, attributes := #[] }])
  fields := #[{ name := "MAX_LENGTH", type := .int, accessFlags := 26, slot := 0, constantValue := 0 }, { name := "name", type := (.object "java/lang/String"), accessFlags := 18, slot := 0, constantValue := 0 }]
  methods := #[k9m0, k9m1, k9m2, k9m3]
  instanceTypes := #[(.object "java/lang/String")]
  staticTypes := #[.int]
  resolved := Array.replicate 112 none
  statics := none }

def pool10 : Array CpInfo := pool [(2, .class_ 4), (1, u "java/lang/Object"), (0, u "<init>"), (0, u "()V"), (35, .class_ 44), (1, u "java/util/Objects"), (0, u "requireNonNull"), (48, u "(Ljava/lang/Object;Ljava/lang/String;)Ljava/lang/Object;")] 89

def k10m0 : Method := { name := "<init>", desc := "()V", sig := { parameters := [], returnType := none }, accessFlags := 2, code := none }
def k10c1 : Code := { maxStack := 3, maxLocals := 2, code := jdk_31_method_11_code, exceptionTable := #[], attributes := #[] }
def k10m1 : Method := { name := "requireNonNull", desc := "(Ljava/lang/Object;Ljava/lang/String;)Ljava/lang/Object;", sig := { parameters := [(.object "java/lang/Object"), (.object "java/lang/String")], returnType := some (.object "java/lang/Object") }, accessFlags := 9, code := some k10c1 }
/-- java/util/Objects -/
def k10 : Class := { plain "java/util/Objects" (some 0) with
  accessFlags := 49
  interfaces := #[]
  cf := some (fileOf pool10 42 #[] #[{ accessFlags := 2, nameIndex := 5, descriptorIndex := 6, attributes := #[] }, { accessFlags := 9, nameIndex := 45, descriptorIndex := 94, attributes := #[] }] 49 2 #[] #[])
  fields := #[]
  methods := #[k10m0, k10m1]
  instanceTypes := #[]
  staticTypes := #[]
  resolved := Array.replicate 184 none
  statics := none }

def pool11 : Array CpInfo := pool [(1, .class_ 2), (0, u "java/lang/String"), (1, .class_ 6), (1, u "java/lang/Object"), (0, u "<init>"), (0, u "()V"), (0, .methodref 1 10), (0, .nameAndType 11 12), (0, u "checkIndex"), (0, u "(II)V"), (1, .class_ 16), (1, u "java/lang/StringLatin1"), (36, u "([BI)C"), (67, u "$assertionsDisabled"), (0, u "Z"), (98, .class_ 223), (1, u "java/lang/StringLatin1$LinesSpliterator"), (28, u "charAt"), (137, .class_ 391), (0, u "java/lang/StringLatin1$CharsSpliterator")] 3

def k11m0 : Method := { name := "<init>", desc := "()V", sig := { parameters := [], returnType := none }, accessFlags := 0, code := none }
def k11c1 : Code := { maxStack := 2, maxLocals := 2, code := jdk_43_method_2_code, exceptionTable := #[], attributes := #[] }
def k11m1 : Method := { name := "charAt", desc := "([BI)C", sig := { parameters := [(.array .byte), .int], returnType := some .char }, accessFlags := 9, code := some k11c1 }
/-- java/lang/StringLatin1 -/
def k11 : Class := { plain "java/lang/StringLatin1" (some 0) with
  accessFlags := 48
  interfaces := #[]
  cf := some (fileOf pool11 14 #[.nestMembers #[390, 221]] #[{ accessFlags := 0, nameIndex := 7, descriptorIndex := 8, attributes := #[] }, { accessFlags := 9, nameIndex := 252, descriptorIndex := 53, attributes := #[] }] 48 4 #[] #[{ accessFlags := 4120, nameIndex := 121, descriptorIndex := 122, attributes := #[] }])
  fields := #[{ name := "$assertionsDisabled", type := .boolean, accessFlags := 4120, slot := 0, constantValue := 0 }]
  methods := #[k11m0, k11m1]
  instanceTypes := #[]
  staticTypes := #[.boolean]
  resolved := Array.replicate 395 none
  statics := none }

def pool12 : Array CpInfo := pool [(2, .class_ 4), (1, u "java/lang/Object"), (0, u "<init>"), (0, u "()V"), (17, .class_ 26), (1, u "jdk/internal/util/Preconditions"), (6, u "checkIndex"), (21, .class_ 56), (0, u "jdk/internal/util/Preconditions$4"), (57, .class_ 115), (0, u "jdk/internal/util/Preconditions$1"), (7, u "SIOOBE_FORMATTER"), (0, u "Ljava/util/function/BiFunction;"), (0, .class_ 126), (0, u "jdk/internal/util/Preconditions$2"), (3, u "AIOOBE_FORMATTER"), (0, .class_ 132), (0, u "jdk/internal/util/Preconditions$3"), (3, u "IOOBE_FORMATTER"), (41, u "(IILjava/util/function/BiFunction;)I")] 15

def k12m0 : Method := { name := "<init>", desc := "()V", sig := { parameters := [], returnType := none }, accessFlags := 1, code := none }
def k12c1 : Code := { maxStack := 3, maxLocals := 3, code := jdk_41_method_11_code, exceptionTable := #[], attributes := #[] }
def k12m1 : Method := { name := "checkIndex", desc := "(IILjava/util/function/BiFunction;)I", sig := { parameters := [.int, .int, (.object "java/util/function/BiFunction")], returnType := some .int }, accessFlags := 9, code := some k12c1 }
/-- jdk/internal/util/Preconditions -/
def k12 : Class := { plain "jdk/internal/util/Preconditions" (some 0) with
  accessFlags := 33
  interfaces := #[]
  cf := some (fileOf pool12 24 #[.nestMembers #[55, 131, 125, 114]] #[{ accessFlags := 1, nameIndex := 5, descriptorIndex := 6, attributes := #[] }, { accessFlags := 9, nameIndex := 33, descriptorIndex := 178, attributes := #[] }] 33 2 #[] #[{ accessFlags := 25, nameIndex := 123, descriptorIndex := 124, attributes := #[] }, { accessFlags := 25, nameIndex := 130, descriptorIndex := 124, attributes := #[] }, { accessFlags := 25, nameIndex := 136, descriptorIndex := 124, attributes := #[] }])
  fields := #[{ name := "SIOOBE_FORMATTER", type := (.object "java/util/function/BiFunction"), accessFlags := 25, slot := 0, constantValue := 0 }, { name := "AIOOBE_FORMATTER", type := (.object "java/util/function/BiFunction"), accessFlags := 25, slot := 1, constantValue := 0 }, { name := "IOOBE_FORMATTER", type := (.object "java/util/function/BiFunction"), accessFlags := 25, slot := 2, constantValue := 0 }]
  methods := #[k12m0, k12m1]
  instanceTypes := #[]
  staticTypes := #[(.object "java/util/function/BiFunction"), (.object "java/util/function/BiFunction"), (.object "java/util/function/BiFunction")]
  resolved := Array.replicate 194 none
  statics := some 1 }

def pool13 : Array CpInfo := pool [(9, u "<init>"), (6, .class_ 18), (1, u "java/lang/Object"), (0, u "()V"), (1, .class_ 23), (1, u "jdk/internal/util/ArraysSupport"), (0, u "LOG2_ARRAY_LONG_INDEX_SCALE"), (0, u "I"), (2, u "U"), (0, u "Ljdk/internal/misc/Unsafe;"), (8, u "BIG_ENDIAN"), (0, u "Z"), (8, u "LOG2_BYTE_BIT_SIZE"), (4, u "LOG2_ARRAY_INT_INDEX_SCALE"), (54, u "JLA"), (0, u "Ljdk/internal/access/JavaLangAccess;"), (11, u "LOG2_ARRAY_BOOLEAN_INDEX_SCALE"), (9, u "LOG2_ARRAY_BYTE_INDEX_SCALE"), (5, u "LOG2_ARRAY_CHAR_INDEX_SCALE"), (5, u "LOG2_ARRAY_SHORT_INDEX_SCALE"), (18, u "LOG2_ARRAY_FLOAT_INDEX_SCALE"), (24, u "LOG2_ARRAY_DOUBLE_INDEX_SCALE"), (89, u "T_BOOLEAN"), (2, u "T_CHAR"), (1, u "T_FLOAT"), (1, u "T_DOUBLE"), (1, u "T_BYTE"), (1, u "T_SHORT"), (1, u "T_INT"), (1, u "T_LONG"), (1, u "SOFT_MAX_ARRAY_LENGTH")] 83

def k13m0 : Method := { name := "<init>", desc := "()V", sig := { parameters := [], returnType := none }, accessFlags := 2, code := none }
/-- jdk/internal/util/ArraysSupport -/
def k13 : Class := { plain "jdk/internal/util/ArraysSupport" (some 0) with
  accessFlags := 33
  interfaces := #[]
  cf := some (fileOf pool13 21 #[] #[{ accessFlags := 2, nameIndex := 9, descriptorIndex := 19, attributes := #[] }] 33 16 #[] #[{ accessFlags := 24, nameIndex := 28, descriptorIndex := 29, attributes := #[] }, { accessFlags := 26, nameIndex := 38, descriptorIndex := 39, attributes := #[] }, { accessFlags := 25, nameIndex := 121, descriptorIndex := 25, attributes := #[] }, { accessFlags := 25, nameIndex := 131, descriptorIndex := 25, attributes := #[] }, { accessFlags := 25, nameIndex := 137, descriptorIndex := 25, attributes := #[] }, { accessFlags := 25, nameIndex := 143, descriptorIndex := 25, attributes := #[] }, { accessFlags := 25, nameIndex := 53, descriptorIndex := 25, attributes := #[] }, { accessFlags := 25, nameIndex := 24, descriptorIndex := 25, attributes := #[] }, { accessFlags := 25, nameIndex := 162, descriptorIndex := 25, attributes := #[] }, { accessFlags := 25, nameIndex := 187, descriptorIndex := 25, attributes := #[] }, { accessFlags := 26, nameIndex := 48, descriptorIndex := 25, attributes := #[] }, { accessFlags := 25, nameIndex := 277, descriptorIndex := 25, attributes := #[] }, { accessFlags := 25, nameIndex := 280, descriptorIndex := 25, attributes := #[] }, { accessFlags := 25, nameIndex := 282, descriptorIndex := 25, attributes := #[] }, { accessFlags := 25, nameIndex := 284, descriptorIndex := 25, attributes := #[] }, { accessFlags := 25, nameIndex := 286, descriptorIndex := 25, attributes := #[] }, { accessFlags := 25, nameIndex := 288, descriptorIndex := 25, attributes := #[] }, { accessFlags := 25, nameIndex := 290, descriptorIndex := 25, attributes := #[] }, { accessFlags := 25, nameIndex := 292, descriptorIndex := 25, attributes := #[] }, { accessFlags := 26, nameIndex := 108, descriptorIndex := 109, attributes := #[] }, { accessFlags := 25, nameIndex := 294, descriptorIndex := 25, attributes := #[] }])
  fields := #[{ name := "U", type := (.object "jdk/internal/misc/Unsafe"), accessFlags := 24, slot := 0, constantValue := 0 }, { name := "BIG_ENDIAN", type := .boolean, accessFlags := 26, slot := 1, constantValue := 0 }, { name := "LOG2_ARRAY_BOOLEAN_INDEX_SCALE", type := .int, accessFlags := 25, slot := 2, constantValue := 0 }, { name := "LOG2_ARRAY_BYTE_INDEX_SCALE", type := .int, accessFlags := 25, slot := 3, constantValue := 0 }, { name := "LOG2_ARRAY_CHAR_INDEX_SCALE", type := .int, accessFlags := 25, slot := 4, constantValue := 0 }, { name := "LOG2_ARRAY_SHORT_INDEX_SCALE", type := .int, accessFlags := 25, slot := 5, constantValue := 0 }, { name := "LOG2_ARRAY_INT_INDEX_SCALE", type := .int, accessFlags := 25, slot := 6, constantValue := 0 }, { name := "LOG2_ARRAY_LONG_INDEX_SCALE", type := .int, accessFlags := 25, slot := 7, constantValue := 0 }, { name := "LOG2_ARRAY_FLOAT_INDEX_SCALE", type := .int, accessFlags := 25, slot := 8, constantValue := 0 }, { name := "LOG2_ARRAY_DOUBLE_INDEX_SCALE", type := .int, accessFlags := 25, slot := 9, constantValue := 0 }, { name := "LOG2_BYTE_BIT_SIZE", type := .int, accessFlags := 26, slot := 10, constantValue := 0 }, { name := "T_BOOLEAN", type := .int, accessFlags := 25, slot := 11, constantValue := 0 }, { name := "T_CHAR", type := .int, accessFlags := 25, slot := 12, constantValue := 0 }, { name := "T_FLOAT", type := .int, accessFlags := 25, slot := 13, constantValue := 0 }, { name := "T_DOUBLE", type := .int, accessFlags := 25, slot := 14, constantValue := 0 }, { name := "T_BYTE", type := .int, accessFlags := 25, slot := 15, constantValue := 0 }, { name := "T_SHORT", type := .int, accessFlags := 25, slot := 16, constantValue := 0 }, { name := "T_INT", type := .int, accessFlags := 25, slot := 17, constantValue := 0 }, { name := "T_LONG", type := .int, accessFlags := 25, slot := 18, constantValue := 0 }, { name := "JLA", type := (.object "jdk/internal/access/JavaLangAccess"), accessFlags := 26, slot := 19, constantValue := 0 }, { name := "SOFT_MAX_ARRAY_LENGTH", type := .int, accessFlags := 25, slot := 20, constantValue := 0 }]
  methods := #[k13m0]
  instanceTypes := #[]
  staticTypes := #[(.object "jdk/internal/misc/Unsafe"), .boolean, .int, .int, .int, .int, .int, .int, .int, .int, .int, .int, .int, .int, .int, .int, .int, .int, .int, (.object "jdk/internal/access/JavaLangAccess"), .int]
  resolved := Array.replicate 378 none
  statics := none }

def pool14 : Array CpInfo := pool [(1, u "java/lang/Cloneable"), (0, .class_ 1), (0, u "java/lang/Object"), (0, .class_ 3)] 3

/-- java/lang/Cloneable -/
def k14 : Class := { plain "java/lang/Cloneable" (some 0) with
  accessFlags := 1537
  interfaces := #[]
  cf := some (fileOf pool14 2 #[] #[] 1537 4 #[] #[])
  fields := #[]
  methods := #[]
  instanceTypes := #[]
  staticTypes := #[]
  resolved := Array.replicate 8 none
  statics := none }

/-- the primitive byte -/
def k15 : Class := { plain "byte" none with kind := .primitive 'B', accessFlags := 0x411 }
/-- [B -/
def k16 : Class := { plain "[B" (some 0) with kind := .array 15 .byte, interfaces := #[14, 2], accessFlags := 1041 }

/-- the primitive char -/
def k17 : Class := { plain "char" none with kind := .primitive 'C', accessFlags := 0x411 }
/-- [C -/
def k18 : Class := { plain "[C" (some 0) with kind := .array 17 .char, interfaces := #[14, 2], accessFlags := 1041 }

/-- the primitive int -/
def k19 : Class := { plain "int" none with kind := .primitive 'I', accessFlags := 0x411 }
/-- [I -/
def k20 : Class := { plain "[I" (some 0) with kind := .array 19 .int, interfaces := #[14, 2], accessFlags := 1041 }

def heap : Heap := #[{ cls := 7, slots := #[.long 0, .int 1, .null, .int 0, .null, .int 0, .int 0], vm := .statics 7 },
  { cls := 12, slots := #[.null, .null, .null], vm := .statics 12 }]
def classes : Array Class := #[k0, k1, k2, k3, k4, k5, k6, k7, k8, k9, k10, k11, k12, k13, k14, k15, k16, k17, k18, k19, k20]
def interned : List (Array UInt16 × Addr) := []
def slotsUsed : Nat := 10
def theMethod : MethodId := ⟨1, 3⟩
def args0 : Array Value := #[.int 3, .int 5, .int 65, .int 7, .int 64]
def aboutOver (below : List Frame) : State where
  vm := { classes := classes, interned := interned.toArray }
  heap := heap
  slotsUsed := slotsUsed
  threads := #[{ frames := .invoking theMethod args0 :: below }]
def below0 : List Frame := [.native { method := ⟨0, 0⟩, args := #[] }]
def about1 : State := aboutOver below0
def p0 : Program := .bare "" "" ""
def e0 : Env := launch0.env 0 0 0
theorem w_frames : about1.frames = Frame.invoking theMethod args0 :: below0 := rfl
set_option maxRecDepth 65536 in
theorem w_args : argsFit about1.vm theMethod args0 = true := by decide +kernel
set_option maxRecDepth 65536 in
theorem w_heap : heapFits about1 = true := by decide +kernel
set_option maxRecDepth 65536 in
theorem w_runnable : about1.curStatus? = some .runnable := by decide +kernel
set_option maxRecDepth 65536 in
theorem w_alone : about1.alone = true := by decide +kernel
set_option maxRecDepth 65536 in
theorem w_named : about1.methodNamed? x = some theMethod := by decide +kernel
set_option maxRecDepth 65536 in
theorem w_hears : about1.hears theMethod below0 = true := by decide +kernel
set_option maxRecDepth 65536 in
theorem w_ripe : about1.ripe theMethod args0 below0 = true := by decide +kernel
theorem w_running : about1.status = .running := rfl
set_option maxRecDepth 65536 in
theorem w_room : about1.hasRoom e0.platform room_1 = true :=
  launch0.hasRoom_least _ room_1 (by decide +kernel) (by decide +kernel) (by decide +kernel) (by decide +kernel) (by decide +kernel) (by decide +kernel)
theorem allAtoms_all (ts : List Jvm.Cond) (a : Array Jvm.Value) (st : Jvm.State) : (allAtoms ts).before a st = ts.all (fun c => c.before a st) := by
  induction ts with
  | nil => rfl
  | cons c t ih =>
    show (Jvm.Cond.and c (allAtoms t)).before a st = _
    rw [Jvm.Cond.before_and, ih, List.all_cons]
def words1 : List Jvm.Cond := Jvm.Cond.code x code maxLocals ret :: tables_1
/-- a 'code' word, met by the world's own term for the bytes: nothing is compared byte by byte -/
theorem code_word {y : MethodName} {bytes : ByteArray} {mx : Nat} {rt : Option FieldType} {a : Array Value} {s : State} {m : MethodId} {meth : Method} {c : Code} (h1 : s.methodNamed? y = some m) (h2 : s.vm.method? m = some meth) (h3 : meth.code = some c) (h4 : c.code = bytes)
    (h5 : (c.maxLocals == mx && c.exceptionTable.isEmpty && decide (c.maxStack ≤ mostOperands) && decide (meth.sig.returnType = rt) && !meth.locks && decide (parseMethodDescriptor y.desc = some meth.sig)) = true) : (Jvm.Cond.code y bytes mx rt).before a s = true := by
  simp only [Bool.and_eq_true, beq_iff_eq, Bool.not_eq_true', decide_eq_true_eq] at h5
  obtain ⟨⟨⟨⟨⟨g1, g2⟩, g3⟩, g4⟩, g5⟩, g6⟩ := h5
  simp [Cond.before, Cond.holds, Cond.value, h1, h2, h3, h4, g1, g2, g3, g4, g5, g6]
def isCode : Jvm.Cond → Bool
  | .code _ _ _ _ => true
  | _ => false
theorem all_split {L : List Jvm.Cond} {P : Jvm.Cond → Bool} (h1 : L.all (fun c => isCode c || P c) = true) (h2 : ∀ c ∈ L.filter isCode, P c = true) : L.all P = true := by
  refine List.all_eq_true.mpr fun c hc => ?_
  have h := List.all_eq_true.mp h1 c hc
  rcases Bool.eq_false_or_eq_true (isCode c) with hi | hi
  · exact h2 c (List.mem_filter.mpr ⟨hc, hi⟩)
  · simpa [hi] using h
set_option maxRecDepth 65536 in
theorem w_c0 : (Jvm.Cond.code x code maxLocals ret).before args0 about1 = true := code_word (m := ⟨1, 3⟩) (meth := k1m3) (c := k1c3) (by decide +kernel) rfl rfl rfl (by decide +kernel)
set_option maxRecDepth 65536 in
theorem w_c1 : (Jvm.Cond.code ({ cls := "com/example/trusty_lock/trustylock/LockNameOfPinLaw", name := "allowed", desc := "(I)C" } : Jvm.MethodName) method_2_code (2 : Nat) (Option.some Jvm.ClassFile.FieldType.char)).before args0 about1 = true := code_word (m := ⟨1, 1⟩) (meth := k1m1) (c := k1c1) (by decide +kernel) rfl rfl rfl (by decide +kernel)
set_option maxRecDepth 65536 in
theorem w_c2 : (Jvm.Cond.code ({ cls := "com/example/trusty_lock/trustylock/LockNameOfPinLaw", name := "make", desc := "(ICCCC)Ljava/lang/String;" } : Jvm.MethodName) method_3_code (5 : Nat) (Option.some (Jvm.ClassFile.FieldType.object "java/lang/String"))).before args0 about1 = true := code_word (m := ⟨1, 2⟩) (meth := k1m2) (c := k1c2) (by decide +kernel) rfl rfl rfl (by decide +kernel)
set_option maxRecDepth 65536 in
theorem w_c3 : (Jvm.Cond.code ({ cls := "java/lang/String", name := "<init>", desc := "([C)V" } : Jvm.MethodName) jdk_42_method_3_code (2 : Nat) (Option.none : Option Jvm.ClassFile.FieldType)).before args0 about1 = true := code_word (m := ⟨7, 1⟩) (meth := k7m1) (c := k7c1) (by decide +kernel) rfl rfl rfl (by decide +kernel)
set_option maxRecDepth 65536 in
theorem w_c4 : (Jvm.Cond.code ({ cls := "java/lang/String", name := "<init>", desc := "([CIILjava/lang/Void;)V" } : Jvm.MethodName) jdk_42_method_149_code (6 : Nat) (Option.none : Option Jvm.ClassFile.FieldType)).before args0 about1 = true := code_word (m := ⟨7, 6⟩) (meth := k7m6) (c := k7c6) (by decide +kernel) rfl rfl rfl (by decide +kernel)
set_option maxRecDepth 65536 in
theorem w_c5 : (Jvm.Cond.code ({ cls := "java/lang/Object", name := "<init>", desc := "()V" } : Jvm.MethodName) object_method_1_code (1 : Nat) (Option.none : Option Jvm.ClassFile.FieldType)).before args0 about1 = true := code_word (m := ⟨0, 0⟩) (meth := k0m0) (c := k0c0) (by decide +kernel) rfl rfl rfl (by decide +kernel)
set_option maxRecDepth 65536 in
theorem w_c6 : (Jvm.Cond.code ({ cls := "java/lang/StringUTF16", name := "compress", desc := "([CII)[B" } : Jvm.MethodName) jdk_52_method_16_code (6 : Nat) (Option.some (Jvm.ClassFile.FieldType.array Jvm.ClassFile.FieldType.byte))).before args0 about1 = true := code_word (m := ⟨8, 2⟩) (meth := k8m2) (c := k8c2) (by decide +kernel) rfl rfl rfl (by decide +kernel)
set_option maxRecDepth 65536 in
theorem w_c7 : (Jvm.Cond.code ({ cls := "java/lang/StringUTF16", name := "compress", desc := "([CI[BII)I" } : Jvm.MethodName) jdk_52_method_21_code (7 : Nat) (Option.some Jvm.ClassFile.FieldType.int)).before args0 about1 = true := code_word (m := ⟨8, 3⟩) (meth := k8m3) (c := k8c3) (by decide +kernel) rfl rfl rfl (by decide +kernel)
set_option maxRecDepth 65536 in
theorem w_c8 : (Jvm.Cond.code ({ cls := "java/lang/StringUTF16", name := "coderFromArrayLen", desc := "([BI)B" } : Jvm.MethodName) jdk_52_method_15_code (2 : Nat) (Option.some Jvm.ClassFile.FieldType.byte)).before args0 about1 = true := code_word (m := ⟨8, 1⟩) (meth := k8m1) (c := k8c1) (by decide +kernel) rfl rfl rfl (by decide +kernel)
set_option maxRecDepth 65536 in
theorem w_c9 : (Jvm.Cond.code ({ cls := "com/example/trusty_lock/trustylock/LockName", name := "of", desc := "(Ljava/lang/String;)Lcom/example/trusty_lock/trustylock/LockName;" } : Jvm.MethodName) prog_9_method_2_code (2 : Nat) (Option.some (Jvm.ClassFile.FieldType.object "com/example/trusty_lock/trustylock/LockName"))).before args0 about1 = true := code_word (m := ⟨9, 1⟩) (meth := k9m1) (c := k9c1) (by decide +kernel) rfl rfl rfl (by decide +kernel)
set_option maxRecDepth 65536 in
theorem w_c10 : (Jvm.Cond.code ({ cls := "java/util/Objects", name := "requireNonNull", desc := "(Ljava/lang/Object;Ljava/lang/String;)Ljava/lang/Object;" } : Jvm.MethodName) jdk_31_method_11_code (2 : Nat) (Option.some (Jvm.ClassFile.FieldType.object "java/lang/Object"))).before args0 about1 = true := code_word (m := ⟨10, 1⟩) (meth := k10m1) (c := k10c1) (by decide +kernel) rfl rfl rfl (by decide +kernel)
set_option maxRecDepth 65536 in
theorem w_c11 : (Jvm.Cond.code ({ cls := "java/lang/String", name := "isEmpty", desc := "()Z" } : Jvm.MethodName) jdk_42_method_55_code (1 : Nat) (Option.some Jvm.ClassFile.FieldType.boolean)).before args0 about1 = true := code_word (m := ⟨7, 3⟩) (meth := k7m3) (c := k7c3) (by decide +kernel) rfl rfl rfl (by decide +kernel)
set_option maxRecDepth 65536 in
theorem w_c12 : (Jvm.Cond.code ({ cls := "java/lang/String", name := "length", desc := "()I" } : Jvm.MethodName) jdk_42_method_54_code (1 : Nat) (Option.some Jvm.ClassFile.FieldType.int)).before args0 about1 = true := code_word (m := ⟨7, 2⟩) (meth := k7m2) (c := k7c2) (by decide +kernel) rfl rfl rfl (by decide +kernel)
set_option maxRecDepth 65536 in
theorem w_c13 : (Jvm.Cond.code ({ cls := "java/lang/String", name := "coder", desc := "()B" } : Jvm.MethodName) jdk_42_method_152_code (1 : Nat) (Option.some Jvm.ClassFile.FieldType.byte)).before args0 about1 = true := code_word (m := ⟨7, 7⟩) (meth := k7m7) (c := k7c7) (by decide +kernel) rfl rfl rfl (by decide +kernel)
set_option maxRecDepth 65536 in
theorem w_c14 : (Jvm.Cond.code ({ cls := "java/lang/String", name := "charAt", desc := "(I)C" } : Jvm.MethodName) jdk_42_method_56_code (2 : Nat) (Option.some Jvm.ClassFile.FieldType.char)).before args0 about1 = true := code_word (m := ⟨7, 4⟩) (meth := k7m4) (c := k7c4) (by decide +kernel) rfl rfl rfl (by decide +kernel)
set_option maxRecDepth 65536 in
theorem w_c15 : (Jvm.Cond.code ({ cls := "java/lang/String", name := "isLatin1", desc := "()Z" } : Jvm.MethodName) jdk_42_method_154_code (1 : Nat) (Option.some Jvm.ClassFile.FieldType.boolean)).before args0 about1 = true := code_word (m := ⟨7, 8⟩) (meth := k7m8) (c := k7c8) (by decide +kernel) rfl rfl rfl (by decide +kernel)
set_option maxRecDepth 65536 in
theorem w_c16 : (Jvm.Cond.code ({ cls := "java/lang/StringLatin1", name := "charAt", desc := "([BI)C" } : Jvm.MethodName) jdk_43_method_2_code (2 : Nat) (Option.some Jvm.ClassFile.FieldType.char)).before args0 about1 = true := code_word (m := ⟨11, 1⟩) (meth := k11m1) (c := k11c1) (by decide +kernel) rfl rfl rfl (by decide +kernel)
set_option maxRecDepth 65536 in
theorem w_c17 : (Jvm.Cond.code ({ cls := "java/lang/String", name := "checkIndex", desc := "(II)V" } : Jvm.MethodName) jdk_42_method_155_code (2 : Nat) (Option.none : Option Jvm.ClassFile.FieldType)).before args0 about1 = true := code_word (m := ⟨7, 9⟩) (meth := k7m9) (c := k7c9) (by decide +kernel) rfl rfl rfl (by decide +kernel)
set_option maxRecDepth 65536 in
theorem w_c18 : (Jvm.Cond.code ({ cls := "jdk/internal/util/Preconditions", name := "checkIndex", desc := "(IILjava/util/function/BiFunction;)I" } : Jvm.MethodName) jdk_41_method_11_code (3 : Nat) (Option.some Jvm.ClassFile.FieldType.int)).before args0 about1 = true := code_word (m := ⟨12, 1⟩) (meth := k12m1) (c := k12c1) (by decide +kernel) rfl rfl rfl (by decide +kernel)
set_option maxRecDepth 65536 in
theorem w_c19 : (Jvm.Cond.code ({ cls := "com/example/trusty_lock/trustylock/LockName", name := "isAllowed", desc := "(C)Z" } : Jvm.MethodName) prog_9_method_3_code (1 : Nat) (Option.some Jvm.ClassFile.FieldType.boolean)).before args0 about1 = true := code_word (m := ⟨9, 2⟩) (meth := k9m2) (c := k9c2) (by decide +kernel) rfl rfl rfl (by decide +kernel)
set_option maxRecDepth 65536 in
theorem w_c20 : (Jvm.Cond.code ({ cls := "com/example/trusty_lock/trustylock/LockName", name := "<init>", desc := "(Ljava/lang/String;)V" } : Jvm.MethodName) prog_9_method_1_code (2 : Nat) (Option.none : Option Jvm.ClassFile.FieldType)).before args0 about1 = true := code_word (m := ⟨9, 0⟩) (meth := k9m0) (c := k9c0) (by decide +kernel) rfl rfl rfl (by decide +kernel)
set_option maxRecDepth 65536 in
theorem w_c21 : (Jvm.Cond.code ({ cls := "com/example/trusty_lock/trustylock/LockName", name := "toString", desc := "()Ljava/lang/String;" } : Jvm.MethodName) prog_9_method_5_code (1 : Nat) (Option.some (Jvm.ClassFile.FieldType.object "java/lang/String"))).before args0 about1 = true := code_word (m := ⟨9, 3⟩) (meth := k9m3) (c := k9c3) (by decide +kernel) rfl rfl rfl (by decide +kernel)
set_option maxRecDepth 65536 in
theorem w_c22 : (Jvm.Cond.code ({ cls := "java/lang/String", name := "equals", desc := "(Ljava/lang/Object;)Z" } : Jvm.MethodName) jdk_42_method_66_code (3 : Nat) (Option.some Jvm.ClassFile.FieldType.boolean)).before args0 about1 = true := code_word (m := ⟨7, 5⟩) (meth := k7m5) (c := k7c5) (by decide +kernel) rfl rfl rfl (by decide +kernel)
def codes1 : List Jvm.Cond := [Jvm.Cond.code x code maxLocals ret, Jvm.Cond.code ({ cls := "com/example/trusty_lock/trustylock/LockNameOfPinLaw", name := "allowed", desc := "(I)C" } : Jvm.MethodName) method_2_code (2 : Nat) (Option.some Jvm.ClassFile.FieldType.char), Jvm.Cond.code ({ cls := "com/example/trusty_lock/trustylock/LockNameOfPinLaw", name := "make", desc := "(ICCCC)Ljava/lang/String;" } : Jvm.MethodName) method_3_code (5 : Nat) (Option.some (Jvm.ClassFile.FieldType.object "java/lang/String")), Jvm.Cond.code ({ cls := "java/lang/String", name := "<init>", desc := "([C)V" } : Jvm.MethodName) jdk_42_method_3_code (2 : Nat) (Option.none : Option Jvm.ClassFile.FieldType), Jvm.Cond.code ({ cls := "java/lang/String", name := "<init>", desc := "([CIILjava/lang/Void;)V" } : Jvm.MethodName) jdk_42_method_149_code (6 : Nat) (Option.none : Option Jvm.ClassFile.FieldType), Jvm.Cond.code ({ cls := "java/lang/Object", name := "<init>", desc := "()V" } : Jvm.MethodName) object_method_1_code (1 : Nat) (Option.none : Option Jvm.ClassFile.FieldType), Jvm.Cond.code ({ cls := "java/lang/StringUTF16", name := "compress", desc := "([CII)[B" } : Jvm.MethodName) jdk_52_method_16_code (6 : Nat) (Option.some (Jvm.ClassFile.FieldType.array Jvm.ClassFile.FieldType.byte)), Jvm.Cond.code ({ cls := "java/lang/StringUTF16", name := "compress", desc := "([CI[BII)I" } : Jvm.MethodName) jdk_52_method_21_code (7 : Nat) (Option.some Jvm.ClassFile.FieldType.int), Jvm.Cond.code ({ cls := "java/lang/StringUTF16", name := "coderFromArrayLen", desc := "([BI)B" } : Jvm.MethodName) jdk_52_method_15_code (2 : Nat) (Option.some Jvm.ClassFile.FieldType.byte), Jvm.Cond.code ({ cls := "com/example/trusty_lock/trustylock/LockName", name := "of", desc := "(Ljava/lang/String;)Lcom/example/trusty_lock/trustylock/LockName;" } : Jvm.MethodName) prog_9_method_2_code (2 : Nat) (Option.some (Jvm.ClassFile.FieldType.object "com/example/trusty_lock/trustylock/LockName")), Jvm.Cond.code ({ cls := "java/util/Objects", name := "requireNonNull", desc := "(Ljava/lang/Object;Ljava/lang/String;)Ljava/lang/Object;" } : Jvm.MethodName) jdk_31_method_11_code (2 : Nat) (Option.some (Jvm.ClassFile.FieldType.object "java/lang/Object")), Jvm.Cond.code ({ cls := "java/lang/String", name := "isEmpty", desc := "()Z" } : Jvm.MethodName) jdk_42_method_55_code (1 : Nat) (Option.some Jvm.ClassFile.FieldType.boolean), Jvm.Cond.code ({ cls := "java/lang/String", name := "length", desc := "()I" } : Jvm.MethodName) jdk_42_method_54_code (1 : Nat) (Option.some Jvm.ClassFile.FieldType.int), Jvm.Cond.code ({ cls := "java/lang/String", name := "coder", desc := "()B" } : Jvm.MethodName) jdk_42_method_152_code (1 : Nat) (Option.some Jvm.ClassFile.FieldType.byte), Jvm.Cond.code ({ cls := "java/lang/String", name := "charAt", desc := "(I)C" } : Jvm.MethodName) jdk_42_method_56_code (2 : Nat) (Option.some Jvm.ClassFile.FieldType.char), Jvm.Cond.code ({ cls := "java/lang/String", name := "isLatin1", desc := "()Z" } : Jvm.MethodName) jdk_42_method_154_code (1 : Nat) (Option.some Jvm.ClassFile.FieldType.boolean), Jvm.Cond.code ({ cls := "java/lang/StringLatin1", name := "charAt", desc := "([BI)C" } : Jvm.MethodName) jdk_43_method_2_code (2 : Nat) (Option.some Jvm.ClassFile.FieldType.char), Jvm.Cond.code ({ cls := "java/lang/String", name := "checkIndex", desc := "(II)V" } : Jvm.MethodName) jdk_42_method_155_code (2 : Nat) (Option.none : Option Jvm.ClassFile.FieldType), Jvm.Cond.code ({ cls := "jdk/internal/util/Preconditions", name := "checkIndex", desc := "(IILjava/util/function/BiFunction;)I" } : Jvm.MethodName) jdk_41_method_11_code (3 : Nat) (Option.some Jvm.ClassFile.FieldType.int), Jvm.Cond.code ({ cls := "com/example/trusty_lock/trustylock/LockName", name := "isAllowed", desc := "(C)Z" } : Jvm.MethodName) prog_9_method_3_code (1 : Nat) (Option.some Jvm.ClassFile.FieldType.boolean), Jvm.Cond.code ({ cls := "com/example/trusty_lock/trustylock/LockName", name := "<init>", desc := "(Ljava/lang/String;)V" } : Jvm.MethodName) prog_9_method_1_code (2 : Nat) (Option.none : Option Jvm.ClassFile.FieldType), Jvm.Cond.code ({ cls := "com/example/trusty_lock/trustylock/LockName", name := "toString", desc := "()Ljava/lang/String;" } : Jvm.MethodName) prog_9_method_5_code (1 : Nat) (Option.some (Jvm.ClassFile.FieldType.object "java/lang/String")), Jvm.Cond.code ({ cls := "java/lang/String", name := "equals", desc := "(Ljava/lang/Object;)Z" } : Jvm.MethodName) jdk_42_method_66_code (3 : Nat) (Option.some Jvm.ClassFile.FieldType.boolean)]
set_option maxRecDepth 65536 in
theorem codes_eq : words1.filter isCode = codes1 := rfl
theorem w_codes : ∀ c ∈ words1.filter isCode, c.before args0 about1 = true := by
  rw [codes_eq]
  intro c hc
  simp only [codes1, List.mem_cons, List.not_mem_nil, or_false] at hc
  rcases hc with rfl | rfl | rfl | rfl | rfl | rfl | rfl | rfl | rfl | rfl | rfl | rfl | rfl | rfl | rfl | rfl | rfl | rfl | rfl | rfl | rfl | rfl | rfl
  · exact w_c0
  · exact w_c1
  · exact w_c2
  · exact w_c3
  · exact w_c4
  · exact w_c5
  · exact w_c6
  · exact w_c7
  · exact w_c8
  · exact w_c9
  · exact w_c10
  · exact w_c11
  · exact w_c12
  · exact w_c13
  · exact w_c14
  · exact w_c15
  · exact w_c16
  · exact w_c17
  · exact w_c18
  · exact w_c19
  · exact w_c20
  · exact w_c21
  · exact w_c22
set_option maxRecDepth 65536 in
theorem w_t1 : (words1.take 24).all (fun c => isCode c || c.before args0 about1) = true := by decide +kernel
set_option maxRecDepth 65536 in
theorem w_t2 : ((words1.drop 24).take 24).all (fun c => isCode c || c.before args0 about1) = true := by decide +kernel
set_option maxRecDepth 65536 in
theorem w_t3 : (((words1.drop 24).drop 24).take 24).all (fun c => isCode c || c.before args0 about1) = true := by decide +kernel
set_option maxRecDepth 65536 in
theorem w_t4 : ((((words1.drop 24).drop 24).drop 24).take 24).all (fun c => isCode c || c.before args0 about1) = true := by decide +kernel
set_option maxRecDepth 65536 in
theorem w_t5 : ((((words1.drop 24).drop 24).drop 24).drop 24).all (fun c => isCode c || c.before args0 about1) = true := by decide +kernel
theorem w_tables : (allAtoms (Jvm.Cond.code x code maxLocals ret :: tables_1)).before args0 about1 = true := by
  rw [allAtoms_all]
  show words1.all (fun c => c.before args0 about1) = true
  refine all_split ?_ w_codes
  rw [← List.take_append_drop 24 words1, List.all_append, w_t1, ← List.take_append_drop 24 (words1.drop 24), List.all_append, w_t2, ← List.take_append_drop 24 ((words1.drop 24).drop 24), List.all_append, w_t3, ← List.take_append_drop 24 (((words1.drop 24).drop 24).drop 24), List.all_append, w_t4, w_t5]
  rfl
set_option maxRecDepth 65536 in
theorem w_rest : rest_1_c.before args0 about1 = true := by decide +kernel
set_option maxRecDepth 65536 in
theorem w_case : (Jvm.Cond.and given_1 narrow_1).before args0 about1 = true := by decide +kernel
theorem w_applies : (headSpec (Jvm.Cond.code x code maxLocals ret :: tables_1) room_1).applies x e0.platform about1 = true :=
  (Spec.applies_iff w_frames).mpr ⟨w_running, w_runnable, w_alone, w_named, w_hears, w_ripe, w_room, w_tables⟩
theorem atStart : AtStart classFile x code maxLocals ret World_1 tables_1 room_1 Calls_1 rest_1 Pre_1 launch0 p0 e0 about1 theMethod args0 below0 :=
  ⟨lists_1, trivial, launch0.admits_env _ _ _, launch0.least_env, fairChoices_fair.cas, fairChoices_fair.clock, w_frames, w_args, w_heap, w_applies, trivial, w_rest, w_case⟩
end start1
theorem witness_1 : WitnessClaimed_1 := ⟨start1.p0, start1.e0, start1.about1, start1.theMethod, start1.args0, start1.below0, start1.atStart⟩
end Jvm.Pilot.@@N@@
