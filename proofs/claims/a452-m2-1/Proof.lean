import JvmDerived
import JvmDerived.Pilot.@@N@@Statement
import JvmDerived.Pilot.@@N@@Code
set_option linter.unusedVariables false
set_option linter.unusedSimpArgs false
/- laws to paste: Road.backV (cut by pick.py; bodies as the Statement names them) -/
namespace Jvm.Pilot.@@N@@
namespace StrChars
open Jvm Sem ClassFile Op Lib Jvm.Stand Jvm.Free.XT Jvm.Free.ALB Jvm.Free.JM Jvm.Free
open Jvm.Lib.Cold (StaticIs)
/-- a char array whose places are chars -/
def Ch (a : Addr) (A : Cell) (U : State) : Prop := Arr .char a A U ∧ Typed .char A
theorem Ch.mv {a : Addr} {A : Cell} {U U' : State} (h : Ch a A U) (hal : U.vm.Alike U'.vm) (hh : U'.heap = U.heap) : Ch a A U' := ⟨h.1.mv hal hh, h.2⟩
theorem Ch.keep {a : Addr} {A : Cell} {U U' : State} (h : Ch a A U) (hal : U.vm.Alike U'.vm) (hk : U'.heap[a]? = some A) : Ch a A U' := ⟨h.1.keep hal hk, h.2⟩
/-- what place i of a char[]'s cell holds -/
def cv (A : Cell) (i : Nat) : Int32 := match A.slots[i]? with | some (.int x) => x | _ => 0
theorem Ch.get {a : Addr} {A : Cell} {U : State} (h : Ch a A U) {i : Nat} (hi : i < A.slots.size) : A.slots[i]? = some (.int (cv A i)) := by
  have e := Array.getElem?_eq_getElem hi
  have f := h.2 i _ e
  unfold cv; rw [e]
  generalize A.slots[i] = v at f
  cases v <;> simp [fits] at f ⊢
/-- the byte that i2b leaves of a char -/
def lo8 (x : Int32) : Int32 := x.toInt8.toInt32
theorem fits_lo8 (y : Int32) : fits .byte (.int (lo8 y)) = true := by
  have h1 := y.toInt8.le_toInt
  have h2 := y.toInt8.toInt_lt
  simp only [lo8, fits, Bool.and_eq_true, decide_eq_true_eq, Int32.le_iff_toInt_le, Int8.toInt_toInt32, show (-128 : Int32).toInt = -128 from by decide, show (127 : Int32).toInt = 127 from by decide]
  omega
/-- A' is A but that each place j of lo .. hi - 1 holds f j -/
def Laid (A A' : Cell) (lo hi : Nat) (f : Nat → Value) : Prop := A'.cls = A.cls ∧ A'.vm = A.vm ∧ A'.slots.size = A.slots.size ∧ ∀ i, A'.slots[i]? = if lo ≤ i ∧ i < hi then some (f i) else A.slots[i]?
theorem Laid.zero (A : Cell) (lo : Nat) (f : Nat → Value) : Laid A A lo (lo + 0) f := ⟨rfl, rfl, rfl, fun i => by rw [if_neg (by omega)]⟩
theorem Laid.step {A Ak : Cell} {lo k : Nat} {f : Nat → Value} {v : Value} (h : Laid A Ak lo k f) (hlo : lo ≤ k) (hk : k < Ak.slots.size) (hv : v = f k) : Laid A (Ak.setSlot k v) lo (k + 1) f := by
  refine ⟨h.1, h.2.1, by simpa [Cell.setSlot] using h.2.2.1, fun i => ?_⟩
  by_cases e : k = i
  · subst e; rw [Cell.slots_setSlot_self v hk, if_pos (by omega), hv]
  · rw [Cell.slots_setSlot_ne v e, h.2.2.2 i]
    by_cases q : lo ≤ i ∧ i < k
    · rw [if_pos q, if_pos (by omega)]
    · rw [if_neg q, if_neg (by omega)]
def U16 : String := "java/lang/StringUTF16"
namespace Cmp5
def yN : MethodName := ⟨"java/lang/StringUTF16", "compress", "([CI[BII)I"⟩
abbrev yB : ByteArray := jdk_52_method_21_code
theorem d0 : decode yB 0 = .ok (.iconst 0, 1) := by decide +kernel
theorem d1 : decode yB 1 = .ok (.istore 5, 2) := by decide +kernel
theorem d3 : decode yB 3 = .ok (.iload 5, 2) := by decide +kernel
theorem d5 : decode yB 5 = .ok (.iload 4, 2) := by decide +kernel
theorem d7 : decode yB 7 = .ok (.if_icmp (.ge) 37, 3) := by decide +kernel
theorem d10 : decode yB 10 = .ok (.aload_n 0, 1) := by decide +kernel
theorem d11 : decode yB 11 = .ok (.iload_n 1, 1) := by decide +kernel
theorem d12 : decode yB 12 = .ok (.caload, 1) := by decide +kernel
theorem d13 : decode yB 13 = .ok (.istore 6, 2) := by decide +kernel
theorem d15 : decode yB 15 = .ok (.iload 6, 2) := by decide +kernel
theorem d17 : decode yB 17 = .ok (.sipush 255, 3) := by decide +kernel
theorem d20 : decode yB 20 = .ok (.if_icmp (.le) 6, 3) := by decide +kernel
theorem d26 : decode yB 26 = .ok (.aload_n 2, 1) := by decide +kernel
theorem d27 : decode yB 27 = .ok (.iload_n 3, 1) := by decide +kernel
theorem d28 : decode yB 28 = .ok (.iload 6, 2) := by decide +kernel
theorem d30 : decode yB 30 = .ok (.i2b, 1) := by decide +kernel
theorem d31 : decode yB 31 = .ok (.bastore, 1) := by decide +kernel
theorem d32 : decode yB 32 = .ok (.iinc 1 1, 3) := by decide +kernel
theorem d35 : decode yB 35 = .ok (.iinc 3 1, 3) := by decide +kernel
theorem d38 : decode yB 38 = .ok (.iinc 5 1, 3) := by decide +kernel
theorem d41 : decode yB 41 = .ok (.goto (-38), 3) := by decide +kernel
theorem d44 : decode yB 44 = .ok (.iload 4, 2) := by decide +kernel
theorem d46 : decode yB 46 = .ok (.ireturn, 1) := by decide +kernel
def site : List Cond := []
def tab : Cond := tabOf yN yB 7 (some .int) site
def P (b : Addr) (A : Cell) (d : Addr) (B : Cell) (o q len : Nat) (args : Array Value) (s : State) : Prop := args = #[.ref b, .int (Int32.ofNat o), .ref d, .int (Int32.ofNat q), .int (Int32.ofNat len)] ∧ Ch b A s ∧ Arr .byte d B s ∧ b ≠ d ∧ o + len ≤ A.slots.size ∧ q + len ≤ B.slots.size ∧ ∀ i, i < len → ¬ 255 < cv A (o + i)
def E (b : Addr) (A : Cell) (d : Addr) (B : Cell) (o q len : Nat) (r : Option Value) (s u : State) : Prop := r = some (.int (Int32.ofNat len)) ∧ ∃ B', Put d B' s u ∧ Laid B B' q (q + len) (fun j => Value.int (lo8 (cv A (o + (j - q)))))
/-- no char of the range above 255: len; the places written hold each char's low byte -/
theorem law (l : Launch) (b : Addr) (A : Cell) (d : Addr) (B : Cell) (o q len : Nat) : Law l yN 5 5 0 0 yB 7 (some .int) site (P b A d B o q len) (E b A d B o q len) (copyLocs d q len) 0 0 := by
  refine Law.of_walk (plainFor_of_name (by decide +kernel)) (by decide +kernel) (by decide +kernel) (by decide) (fun _ _ h => by rw [h.1]; rfl) (fun _ U U' hal hh h => ⟨h.1, h.2.1.mv hal hh, h.2.2.1.mv hal hh, h.2.2.2⟩) (fun r U U' V V' h1 hal h2 h => ⟨h.1, h.2.elim fun B' q => ⟨B', q.1.mv h1 h2, q.2⟩⟩) ?_
  intro p e s m args below meth c s₁ X0 hexec hbytes hml hret hlk hnm hown hh0 W hP
  obtain ⟨rfl, hA, hB, hne, l1, l2, hp⟩ := hP
  have c1 : Steps p.tables e below (s₁.setTop (entryFrame m #[.ref b, .int (Int32.ofNat o), .ref d, .int (Int32.ofNat q), .int (Int32.ofNat len)] 7)) (s₁.setTop (mkF m 0 #[.val (.ref b), .val (.int (Int32.ofNat o)), .val (.ref d), .val (.int (Int32.ofNat q)), .val (.int (Int32.ofNat len)), .unset, .unset] [])) := entry rfl
  have hA0 := hA.1.mv X0.warmed.alike hh0
  have hB0 := hB.mv X0.warmed.alike hh0
  have a31 := hA.1.2.2.2
  have c2 : Steps p.tables e below (s₁.setTop (entryFrame m #[.ref b, .int (Int32.ofNat o), .ref d, .int (Int32.ofNat q), .int (Int32.ofNat len)] 7)) (s₁.setTop (mkF m 3 #[.val (.ref b), .val (.int (Int32.ofNat o)), .val (.ref d), .val (.int (Int32.ofNat q)), .val (.int (Int32.ofNat len)), .val (.int 0), .unset] [])) := c1.trans (by
    refine iconstV X0.here hexec rfl 0 (hb hbytes d0) (by decide) ?_
    refine XS.istore X0.here hexec rfl (hb hbytes d1) rfl rfl ?_
    exact Steps.refl _)
  have loop : ∀ (r i : Nat), i + r = len → ∀ (z : Slot), (z = .unset ∨ ∃ w, z = .val w ∧ w.category = 1) → ∀ (Tl : State) (Bk : Cell), Stand p l e { frames := 0, locals := 0, cells := 0, slots := 0 } s m #[.ref b, .int (Int32.ofNat o), .ref d, .int (Int32.ofNat q), .int (Int32.ofNat len)] below meth c Tl ([] ++ copyLocs d q i) 0 0 → Put d Bk s₁ Tl → Laid B Bk q (q + i) (fun j => Value.int (lo8 (cv A (o + (j - q))))) →
      Steps p.tables e below (s₁.setTop (entryFrame m #[.ref b, .int (Int32.ofNat o), .ref d, .int (Int32.ofNat q), .int (Int32.ofNat len)] 7)) (Tl.setTop (mkF m 3 #[.val (.ref b), .val (.int (Int32.ofNat (o + i))), .val (.ref d), .val (.int (Int32.ofNat (q + i))), .val (.int (Int32.ofNat len)), .val (.int (Int32.ofNat i)), z] [])) → ∃ (T' : State) (B' : Cell) (z' : Slot), Stand p l e { frames := 0, locals := 0, cells := 0, slots := 0 } s m #[.ref b, .int (Int32.ofNat o), .ref d, .int (Int32.ofNat q), .int (Int32.ofNat len)] below meth c T' ([] ++ copyLocs d q len) 0 0 ∧ Put d B' s₁ T' ∧ Laid B B' q (q + len) (fun j => Value.int (lo8 (cv A (o + (j - q))))) ∧
      Steps p.tables e below (s₁.setTop (entryFrame m #[.ref b, .int (Int32.ofNat o), .ref d, .int (Int32.ofNat q), .int (Int32.ofNat len)] 7)) (T'.setTop (mkF m 3 #[.val (.ref b), .val (.int (Int32.ofNat (o + len))), .val (.ref d), .val (.int (Int32.ofNat (q + len))), .val (.int (Int32.ofNat len)), .val (.int (Int32.ofNat len)), z'] [])) := by
    intro r
    induction r with
    | zero =>
      intro i hi z hz Tl Bk Xl pl fl cl
      have hil : i = len := by omega
      rw [hil] at Xl fl cl
      exact ⟨Tl, Bk, z, Xl, pl, fl, cl⟩
    | succ r ih =>
      intro i hi z hz Tl Bk Xl pl fl cl
      have all := X0.warmed.alike.symm.trans Xl.warmed.alike
      have hAl := hA0.keep all (pl.other hne hA0.1)
      have hBk := hB0.like all pl.1 fl.1 fl.2.1 fl.2.2.1
      have hlt : q + i < Bk.slots.size := by rw [fl.2.2.1]; omega
      have c3 : Steps p.tables e below (s₁.setTop (entryFrame m #[.ref b, .int (Int32.ofNat o), .ref d, .int (Int32.ofNat q), .int (Int32.ofNat len)] 7)) (Tl.setTop (mkF m 12 #[.val (.ref b), .val (.int (Int32.ofNat (o + i))), .val (.ref d), .val (.int (Int32.ofNat (q + i))), .val (.int (Int32.ofNat len)), .val (.int (Int32.ofNat i)), z] [.int (Int32.ofNat (o + i)), .ref b])) := cl.trans (by
        refine XS.iload Xl.here hexec rfl (hb hbytes d3) rfl ?_
        refine XS.iload Xl.here hexec rfl (hb hbytes d5) rfl ?_
        refine XS.icmpNo Xl.here hexec rfl (hb hbytes d7) rfl (ii_ge_f (lt32 (by omega) (by omega))) ?_
        refine XS.aloadN Xl.here hexec rfl (hb hbytes d10) rfl rfl ?_
        refine XS.iloadN Xl.here hexec rfl (hb hbytes d11) rfl ?_
        exact Steps.refl _)
      have c4 : Steps p.tables e below (s₁.setTop (entryFrame m #[.ref b, .int (Int32.ofNat o), .ref d, .int (Int32.ofNat q), .int (Int32.ofNat len)] 7)) (Tl.setTop (mkF m 13 #[.val (.ref b), .val (.int (Int32.ofNat (o + i))), .val (.ref d), .val (.int (Int32.ofNat (q + i))), .val (.int (Int32.ofNat len)), .val (.int (Int32.ofNat i)), z] [.int (cv A (o + i))])) := c3.trans (by
        refine Xl.aget hexec hAl rfl (hA.get (i := o + i) (by omega)) rfl rfl (hb hbytes d12) ?_
        exact Steps.refl _)
      have c5 : Steps p.tables e below (s₁.setTop (entryFrame m #[.ref b, .int (Int32.ofNat o), .ref d, .int (Int32.ofNat q), .int (Int32.ofNat len)] 7)) (Tl.setTop (mkF m 15 #[.val (.ref b), .val (.int (Int32.ofNat (o + i))), .val (.ref d), .val (.int (Int32.ofNat (q + i))), .val (.int (Int32.ofNat len)), .val (.int (Int32.ofNat i)), .val (.int (cv A (o + i)))] [])) := c4.trans (by
        refine XS.istoreS Xl.here hexec rfl (hb hbytes d13) rfl rfl hz ?_
        exact Steps.refl _)
      have c6 : Steps p.tables e below (s₁.setTop (entryFrame m #[.ref b, .int (Int32.ofNat o), .ref d, .int (Int32.ofNat q), .int (Int32.ofNat len)] 7)) (Tl.setTop (mkF m 31 #[.val (.ref b), .val (.int (Int32.ofNat (o + i))), .val (.ref d), .val (.int (Int32.ofNat (q + i))), .val (.int (Int32.ofNat len)), .val (.int (Int32.ofNat i)), .val (.int (cv A (o + i)))] [.int (lo8 (cv A (o + i))), .int (Int32.ofNat (q + i)), .ref d])) := c5.trans (by
        refine XS.iload Xl.here hexec rfl (hb hbytes d15) rfl ?_
        refine sipushV Xl.here hexec rfl 255 (hb hbytes d17) (by decide) ?_
        refine XS.icmpYes Xl.here hexec rfl (pc0 := 20) rfl (hb hbytes d20) rfl (ii_le_t (hp i (by omega))) (by decide) rfl ?_
        refine XS.aloadN Xl.here hexec rfl (hb hbytes d26) rfl rfl ?_
        refine XS.iloadN Xl.here hexec rfl (hb hbytes d27) rfl ?_
        refine XS.iload Xl.here hexec rfl (hb hbytes d28) rfl ?_
        refine i2b Xl.here hexec rfl (hb hbytes d30) rfl ?_
        exact Steps.refl _)
      obtain ⟨T7, X7, p7, st7⟩ := Xl.aput hexec hBk rfl hlt rfl (fits_lo8 (cv A (o + i))) (g := (mkF m 31 #[.val (.ref b), .val (.int (Int32.ofNat (o + i))), .val (.ref d), .val (.int (Int32.ofNat (q + i))), .val (.int (Int32.ofNat len)), .val (.int (Int32.ofNat i)), .val (.int (cv A (o + i)))] [.int (lo8 (cv A (o + i))), .int (Int32.ofNat (q + i)), .ref d])) rfl (rest := []) rfl (hb hbytes d31)
      have c8 : Steps p.tables e below (s₁.setTop (entryFrame m #[.ref b, .int (Int32.ofNat o), .ref d, .int (Int32.ofNat q), .int (Int32.ofNat len)] 7)) (T7.setTop (mkF m 32 #[.val (.ref b), .val (.int (Int32.ofNat (o + i))), .val (.ref d), .val (.int (Int32.ofNat (q + i))), .val (.int (Int32.ofNat len)), .val (.int (Int32.ofNat i)), .val (.int (cv A (o + i)))] [])) := c6.trans (st7 _ (Steps.refl _))
      have c9 : Steps p.tables e below (s₁.setTop (entryFrame m #[.ref b, .int (Int32.ofNat o), .ref d, .int (Int32.ofNat q), .int (Int32.ofNat len)] 7)) (T7.setTop (mkF m 3 #[.val (.ref b), .val (.int (Int32.ofNat (o + i) + 1)), .val (.ref d), .val (.int (Int32.ofNat (q + i) + 1)), .val (.int (Int32.ofNat len)), .val (.int (Int32.ofNat i + 1)), .val (.int (cv A (o + i)))] [])) := c8.trans (by
        refine iincV X7.here hexec rfl 1 (hb hbytes d32) (by decide) rfl rfl ?_
        refine iincV X7.here hexec rfl 1 (hb hbytes d35) (by decide) rfl rfl ?_
        refine iincV X7.here hexec rfl 1 (hb hbytes d38) (by decide) rfl rfl ?_
        refine XS.goto X7.here hexec rfl (pc0 := 41) rfl (hb hbytes d41) (by decide) rfl ?_
        exact Steps.refl _)
      have c10 : Steps p.tables e below (s₁.setTop (entryFrame m #[.ref b, .int (Int32.ofNat o), .ref d, .int (Int32.ofNat q), .int (Int32.ofNat len)] 7)) (T7.setTop (mkF m 3 #[.val (.ref b), .val (.int (Int32.ofNat (o + (i + 1)))), .val (.ref d), .val (.int (Int32.ofNat (q + (i + 1)))), .val (.int (Int32.ofNat len)), .val (.int (Int32.ofNat (i + 1))), .val (.int (cv A (o + i)))] [])) := by
        have := c9
        rw [succ32, succ32, succ32] at this
        exact this
      exact ih (i + 1) (by omega) _ (Or.inr ⟨_, rfl, rfl⟩) T7 _ (by rw [copyLocs_step, ← List.append_assoc]; exact X7) (pl.trans p7) (fl.step (by omega) hlt (by simp)) c10
  obtain ⟨T9, B9, z9, X9, p9, f9, g9⟩ := loop len 0 (by omega) .unset (Or.inl rfl) s₁ B (by simpa [copyLocs] using X0) ⟨hB0.1, fun _ _ => rfl, rfl⟩ (Laid.zero _ _ _) c2
  have c11 : Steps p.tables e below (s₁.setTop (entryFrame m #[.ref b, .int (Int32.ofNat o), .ref d, .int (Int32.ofNat q), .int (Int32.ofNat len)] 7)) (T9.setTop (mkF m 46 #[.val (.ref b), .val (.int (Int32.ofNat (o + len))), .val (.ref d), .val (.int (Int32.ofNat (q + len))), .val (.int (Int32.ofNat len)), .val (.int (Int32.ofNat len)), z9] [.int (Int32.ofNat len)])) := g9.trans (by
    refine XS.iload X9.here hexec rfl (hb hbytes d3) rfl ?_
    refine XS.iload X9.here hexec rfl (hb hbytes d5) rfl ?_
    refine XS.icmpYes X9.here hexec rfl (pc0 := 7) rfl (hb hbytes d7) rfl (ii_ge_t (nlt32 (by omega) (Nat.le_refl _))) (by decide) rfl ?_
    refine XS.iload X9.here hexec rfl (hb hbytes d44) rfl ?_
    exact Steps.refl _)
  exact ⟨T9, some (.int (Int32.ofNat len)), _, _, _, X9, by simp, rfl, rfl, (fun h => by cases h), ⟨rfl, B9, p9.from hh0, f9⟩, fun fs hl => c11.trans (X9.ireturnOut hexec hret rfl (Or.inl rfl) (hb hbytes d46) hl)⟩
end Cmp5
namespace Cmp3
def yN : MethodName := ⟨"java/lang/StringUTF16", "compress", "([CII)[B"⟩
abbrev yB : ByteArray := jdk_52_method_16_code
theorem d0 : decode yB 0 = .ok (.iload_n 2, 1) := by decide +kernel
theorem d1 : decode yB 1 = .ok (.newarray .byte, 2) := by decide +kernel
theorem d3 : decode yB 3 = .ok (.astore_n 3, 1) := by decide +kernel
theorem d4 : decode yB 4 = .ok (.aload_n 0, 1) := by decide +kernel
theorem d5 : decode yB 5 = .ok (.iload_n 1, 1) := by decide +kernel
theorem d6 : decode yB 6 = .ok (.aload_n 3, 1) := by decide +kernel
theorem d7 : decode yB 7 = .ok (.iconst 0, 1) := by decide +kernel
theorem d8 : decode yB 8 = .ok (.iload_n 2, 1) := by decide +kernel
theorem d9 : decode yB 9 = .ok (.invokestatic 115, 3) := by decide +kernel
theorem d12 : decode yB 12 = .ok (.istore 4, 2) := by decide +kernel
theorem d14 : decode yB 14 = .ok (.iload 4, 2) := by decide +kernel
theorem d16 : decode yB 16 = .ok (.iload_n 2, 1) := by decide +kernel
theorem d17 : decode yB 17 = .ok (.if_icmp (.eq) 40, 3) := by decide +kernel
theorem d57 : decode yB 57 = .ok (.aload_n 3, 1) := by decide +kernel
theorem d58 : decode yB 58 = .ok (.areturn, 1) := by decide +kernel
def site : List Cond := [.arrayClass .byte, Cmp5.tab] ++ staticW U16 115 Cmp5.yN
def tab : Cond := tabOf yN yB 6 (some (.array .byte)) site
def P (b : Addr) (A : Cell) (o len : Nat) (args : Array Value) (s : State) : Prop := args = #[.ref b, .int (Int32.ofNat o), .int (Int32.ofNat len)] ∧ Ch b A s ∧ o + len ≤ A.slots.size ∧ len ≤ 536870912 ∧ ∀ i, i < len → ¬ 255 < cv A (o + i)
def E (b : Addr) (A : Cell) (o len : Nat) (r : Option Value) (s u : State) : Prop := NewArr .byte "[B" len (fun j => .int (lo8 (cv A (o + j)))) r s u ∧ u.heap.size = s.heap.size + 1
/-- no char of the range above 255: a new byte[] of their low bytes -/
theorem law (l : Launch) (b : Addr) (A : Cell) (o len : Nat) : Law l yN 3 3 1 18 yB 6 (some (.array .byte)) site (P b A o len) (E b A o len) [] 1 len := by
  refine Law.of_walk (plainFor_of_name (by decide +kernel)) (by decide +kernel) (by decide +kernel) (by decide) (fun _ _ h => by rw [h.1]; rfl) (fun _ U U' hal hh h => ⟨h.1, h.2.1.mv hal hh, h.2.2⟩) (fun r U U' V V' h1 hal h2 h => ⟨NewArr.mv r U U' V V' h1 hal h2 h.1, by rw [h1, h2]; exact h.2⟩) ?_
  intro p e s m args below meth c s₁ X0 hexec hbytes hml hret hlk hnm hown hh0 W hP
  obtain ⟨rfl, hA, l1, l2, hp⟩ := hP
  have a31 := hA.1.2.2.2
  have c1 : Steps p.tables e below (s₁.setTop (entryFrame m #[.ref b, .int (Int32.ofNat o), .int (Int32.ofNat len)] 6)) (s₁.setTop (mkF m 0 #[.val (.ref b), .val (.int (Int32.ofNat o)), .val (.int (Int32.ofNat len)), .unset, .unset, .unset] [])) := entry rfl
  have c2 : Steps p.tables e below (s₁.setTop (entryFrame m #[.ref b, .int (Int32.ofNat o), .int (Int32.ofNat len)] 6)) (s₁.setTop (mkF m 1 #[.val (.ref b), .val (.int (Int32.ofNat o)), .val (.int (Int32.ofNat len)), .unset, .unset, .unset] [.int (Int32.ofNat len)])) := c1.trans (by
    refine XS.iloadN X0.here hexec rfl (hb hbytes d0) rfl ?_
    exact Steps.refl _)
  obtain ⟨T3, B3, X3, ba3, bs3, bv3, bh3, bf3, st3⟩ := X0.anew hexec (atype := .byte) (wk W (.arrayClass .byte)) rfl (by show len * 1 ≤ _; omega) (by omega) (g := (mkF m 1 #[.val (.ref b), .val (.int (Int32.ofNat o)), .val (.int (Int32.ofNat len)), .unset, .unset, .unset] [.int (Int32.ofNat len)])) rfl (hb hbytes d1) (rest := []) rfl (Nat.le_refl _) (by show 0 + len ≤ len; omega)
  rw [hh0] at ba3 st3
  have kp3 : XT.Kept s T3 := (XT.Kept.of_eq hh0).push bh3
  have hA3 := hA.keep X3.warmed.alike (kp3 _ _ hA.1.1)
  have hne : b ≠ s.heap.size := hA.1.ne
  have c4 : Steps p.tables e below (s₁.setTop (entryFrame m #[.ref b, .int (Int32.ofNat o), .int (Int32.ofNat len)] 6)) (T3.setTop (mkF m 3 #[.val (.ref b), .val (.int (Int32.ofNat o)), .val (.int (Int32.ofNat len)), .unset, .unset, .unset] [.ref s.heap.size])) := c2.trans (st3 _ (Steps.refl _))
  have c5 : Steps p.tables e below (s₁.setTop (entryFrame m #[.ref b, .int (Int32.ofNat o), .int (Int32.ofNat len)] 6)) (T3.setTop (mkF m 9 #[.val (.ref b), .val (.int (Int32.ofNat o)), .val (.int (Int32.ofNat len)), .val (.ref s.heap.size), .unset, .unset] [.int (Int32.ofNat len), .int 0, .ref s.heap.size, .int (Int32.ofNat o), .ref b])) := c4.trans (by
    refine XS.astoreN X3.here hexec rfl (hb hbytes d3) rfl rfl rfl ?_
    refine XS.aloadN X3.here hexec rfl (hb hbytes d4) rfl rfl ?_
    refine XS.iloadN X3.here hexec rfl (hb hbytes d5) rfl ?_
    refine XS.aloadN X3.here hexec rfl (hb hbytes d6) rfl rfl ?_
    refine iconstV X3.here hexec rfl 0 (hb hbytes d7) (by decide) ?_
    refine XS.iloadN X3.here hexec rfl (hb hbytes d8) rfl ?_
    exact Steps.refl _)
  obtain ⟨v6, T6, X6, E6, g6⟩ := X3.callS hexec (Cmp5.law l b A s.heap.size B3 o 0 len) hown (wks W (staticW U16 115 Cmp5.yN)) (wk W Cmp5.tab) (W := 0) (Nat.le_of_ble_eq_true rfl) (Nat.le_of_ble_eq_true rfl) (Nat.le_refl _) (by show 0 + len + 0 ≤ len; omega) (g := (mkF m 9 #[.val (.ref b), .val (.int (Int32.ofNat o)), .val (.int (Int32.ofNat len)), .val (.ref s.heap.size), .unset, .unset] [.int (Int32.ofNat len), .int (Int32.ofNat 0), .ref s.heap.size, .int (Int32.ofNat o), .ref b])) rfl (by rw [hml]; rfl) c5 (argsL := [.ref b, .int (Int32.ofNat o), .ref s.heap.size, .int (Int32.ofNat 0), .int (Int32.ofNat len)]) (rest := []) rfl rfl (by show 2 * 0 + 0 ≤ _; decide) (hb hbytes d9) (⟨rfl, hA3, ba3, hne, l1, by rw [bs3]; simp, hp⟩)
  obtain ⟨rfl, B6, p6, f6⟩ := E6
  have c7 : Steps p.tables e below (s₁.setTop (entryFrame m #[.ref b, .int (Int32.ofNat o), .int (Int32.ofNat len)] 6)) (T6.setTop (mkF m 12 #[.val (.ref b), .val (.int (Int32.ofNat o)), .val (.int (Int32.ofNat len)), .val (.ref s.heap.size), .unset, .unset] [.int (Int32.ofNat len)])) := g6
  have c8 : Steps p.tables e below (s₁.setTop (entryFrame m #[.ref b, .int (Int32.ofNat o), .int (Int32.ofNat len)] 6)) (T6.setTop (mkF m 58 #[.val (.ref b), .val (.int (Int32.ofNat o)), .val (.int (Int32.ofNat len)), .val (.ref s.heap.size), .val (.int (Int32.ofNat len)), .unset] [.ref s.heap.size])) := c7.trans (by
    refine XS.istore X6.here hexec rfl (hb hbytes d12) rfl rfl ?_
    refine XS.iload X6.here hexec rfl (hb hbytes d14) rfl ?_
    refine XS.iloadN X6.here hexec rfl (hb hbytes d16) rfl ?_
    refine XS.icmpYes X6.here hexec rfl (pc0 := 17) rfl (hb hbytes d17) rfl (ii_eq_t rfl) (by decide) rfl ?_
    refine XS.aloadN X6.here hexec rfl (hb hbytes d57) rfl rfl ?_
    exact Steps.refl _)
  have X8 := X6.wide (L' := []) (cells' := 1) (slots' := len) (fun x hx hlt => by
    simp only [List.nil_append, copyLocs, List.mem_map, List.mem_range] at hx
    obtain ⟨i, -, rfl⟩ := hx
    exact absurd hlt (Nat.lt_irrefl _)) (Nat.le_refl _) (by omega)
  exact ⟨T6, some (.ref s.heap.size), _, _, _, X8, rfl, rfl, rfl, (fun h => by cases h), ⟨⟨rfl, B6, ba3.like (X3.warmed.alike.symm.trans X6.warmed.alike) p6.1 f6.1 f6.2.1 f6.2.2.1, f6.2.1.trans bv3, by rw [X6.warmed.alike.findClass, f6.1]; exact bf3, by rw [f6.2.2.1, bs3]; simp, fun j hj => by rw [f6.2.2.2 j, if_pos (by omega)]; rfl, kp3.put p6 (Nat.le_refl _)⟩, by rw [p6.2.2, bh3, hh0]; simp⟩, fun fs hl => c8.trans (X8.areturnOut hexec rfl hret rfl (hb hbytes d58) hl)⟩
end Cmp3
namespace CodL
def yN : MethodName := ⟨"java/lang/StringUTF16", "coderFromArrayLen", "([BI)B"⟩
abbrev yB : ByteArray := jdk_52_method_15_code
theorem d0 : decode yB 0 = .ok (.iload_n 1, 1) := by decide +kernel
theorem d1 : decode yB 1 = .ok (.aload_n 0, 1) := by decide +kernel
theorem d2 : decode yB 2 = .ok (.arraylength, 1) := by decide +kernel
theorem d3 : decode yB 3 = .ok (.isub, 1) := by decide +kernel
theorem d4 : decode yB 4 = .ok (.bipush 31, 2) := by decide +kernel
theorem d6 : decode yB 6 = .ok (.iushr, 1) := by decide +kernel
theorem d7 : decode yB 7 = .ok (.i2b, 1) := by decide +kernel
theorem d8 : decode yB 8 = .ok (.ireturn, 1) := by decide +kernel
def site : List Cond := []
def tab : Cond := tabOf yN yB 2 (some .byte) site
def P (d : Addr) (B : Cell) (args : Array Value) (s : State) : Prop := args = #[.ref d, .int (Int32.ofNat B.slots.size)] ∧ Arr .byte d B s
def E (r : Option Value) (s u : State) : Prop := XT.PureE (some (.int 0)) r s u
/-- an array as long as the number of chars: LATIN1 -/
theorem law (l : Launch) (d : Addr) (B : Cell) : Law l yN 2 2 0 0 yB 2 (some .byte) site (P d B) E [] 0 0 := by
  refine Law.of_walk (plainFor_of_name (by decide +kernel)) (by decide +kernel) (by decide +kernel) (by decide) (fun _ _ h => by rw [h.1]; rfl) (fun _ U U' hal hh h => ⟨h.1, h.2.mv hal hh⟩) (fun r U U' V V' h1 hal h2 h => XT.PureE.mv r U U' V V' h1 hal h2 h) ?_
  intro p e s m args below meth c s₁ X0 hexec hbytes hml hret hlk hnm hown hh0 W hP
  obtain ⟨rfl, hB⟩ := hP
  have hB0 := hB.mv X0.warmed.alike hh0
  have c1 : Steps p.tables e below (s₁.setTop (entryFrame m #[.ref d, .int (Int32.ofNat B.slots.size)] 2)) (s₁.setTop (mkF m 0 #[.val (.ref d), .val (.int (Int32.ofNat B.slots.size))] [])) := entry rfl
  have c2 : Steps p.tables e below (s₁.setTop (entryFrame m #[.ref d, .int (Int32.ofNat B.slots.size)] 2)) (s₁.setTop (mkF m 2 #[.val (.ref d), .val (.int (Int32.ofNat B.slots.size))] [.ref d, .int (Int32.ofNat B.slots.size)])) := c1.trans (by
    refine XS.iloadN X0.here hexec rfl (hb hbytes d0) rfl ?_
    refine XS.aloadN X0.here hexec rfl (hb hbytes d1) rfl rfl ?_
    exact Steps.refl _)
  have c3 : Steps p.tables e below (s₁.setTop (entryFrame m #[.ref d, .int (Int32.ofNat B.slots.size)] 2)) (s₁.setTop (mkF m 8 #[.val (.ref d), .val (.int (Int32.ofNat B.slots.size))] [.int (lo8 (ushr (Int32.ofNat B.slots.size - Int32.ofNat B.slots.size) 31))])) := c2.trans (by
    refine X0.alen hexec hB0 rfl rfl (hb hbytes d2) ?_
    refine XS.isub X0.here hexec rfl (hb hbytes d3) rfl ?_
    refine bipushV X0.here hexec rfl 31 (hb hbytes d4) (by decide) ?_
    refine iushr X0.here hexec rfl (hb hbytes d6) rfl ?_
    refine i2b X0.here hexec rfl (hb hbytes d7) rfl ?_
    exact Steps.refl _)
  have e0 : lo8 (ushr (Int32.ofNat B.slots.size - Int32.ofNat B.slots.size) 31) = 0 := by rw [Int32.sub_self]; decide
  rw [e0] at c3
  exact ⟨s₁, some (.int 0), _, _, _, X0, rfl, rfl, rfl, (fun h => by cases h), ⟨rfl, hh0⟩, fun fs hl => c3.trans (X0.ireturnOut hexec hret rfl (Or.inr (Or.inr (Or.inl rfl))) (hb hbytes d8) hl)⟩
end CodL
/-- the String at a is Latin-1 over a new byte[] (the heap's one new cell): the low bytes of the len chars of A from o on; every cell but a is kept -/
def Got (a : Addr) (D : Cell) (fV fC : Field) (A : Cell) (o len : Nat) (r : Option Value) (s u : State) : Prop := r = none ∧ ∃ D' V : Cell, Blank "java/lang/String" a D' u ∧ Same D D' [fV.slot, fC.slot] ∧ D'.slots[fV.slot]? = some (.ref s.heap.size) ∧ D'.slots[fC.slot]? = some (.int 0) ∧ Arr .byte s.heap.size V u ∧ V.vm = .none ∧ u.vm.findClass "[B" = some V.cls ∧ V.slots.size = len ∧ (∀ j, j < len → V.slots[j]? = some (.int (lo8 (cv A (o + j))))) ∧ (∀ (y : Addr) (c : Cell), y ≠ a → s.heap[y]? = some c → u.heap[y]? = some c) ∧ u.heap.size = s.heap.size + 1
theorem Got.mv {a : Addr} {D A : Cell} {fV fC : Field} {o len : Nat} : ∀ r (U U' V V' : State), U'.heap = U.heap → V.vm.Alike V'.vm → V'.heap = V.heap → Got a D fV fC A o len r U V → Got a D fV fC A o len r U' V' :=
  fun r U U' V V' h1 hal h2 ⟨e0, D', X, a1, a2, a3, a4, a5, a6, a7, a8, a9, a10, a11⟩ => ⟨e0, D', X, a1.mv hal h2, a2, by rw [h1]; exact a3, a4, by rw [h1]; exact a5.mv hal h2, a6, by rw [hal.findClass]; exact a7, a8, a9, by rw [h1, h2]; exact a10, by rw [h1, h2]; exact a11⟩
namespace New4
def yN : MethodName := ⟨"java/lang/String", "<init>", "([CIILjava/lang/Void;)V"⟩
abbrev yB : ByteArray := jdk_42_method_149_code
theorem d0 : decode yB 0 = .ok (.aload_n 0, 1) := by decide +kernel
theorem d1 : decode yB 1 = .ok (.invokespecial 1, 3) := by decide +kernel
theorem d4 : decode yB 4 = .ok (.iload_n 3, 1) := by decide +kernel
theorem d5 : decode yB 5 = .ok (.ifCond (.ne) 22, 3) := by decide +kernel
theorem d27 : decode yB 27 = .ok (.getstatic 38, 3) := by decide +kernel
theorem d30 : decode yB 30 = .ok (.ifCond (.eq) 28, 3) := by decide +kernel
theorem d33 : decode yB 33 = .ok (.aload_n 1, 1) := by decide +kernel
theorem d34 : decode yB 34 = .ok (.iload_n 2, 1) := by decide +kernel
theorem d35 : decode yB 35 = .ok (.iload_n 3, 1) := by decide +kernel
theorem d36 : decode yB 36 = .ok (.invokestatic 177, 3) := by decide +kernel
theorem d39 : decode yB 39 = .ok (.astore 5, 2) := by decide +kernel
theorem d41 : decode yB 41 = .ok (.aload_n 0, 1) := by decide +kernel
theorem d42 : decode yB 42 = .ok (.aload 5, 2) := by decide +kernel
theorem d44 : decode yB 44 = .ok (.iload_n 3, 1) := by decide +kernel
theorem d45 : decode yB 45 = .ok (.invokestatic 47, 3) := by decide +kernel
theorem d48 : decode yB 48 = .ok (.putfield 15, 3) := by decide +kernel
theorem d51 : decode yB 51 = .ok (.aload_n 0, 1) := by decide +kernel
theorem d52 : decode yB 52 = .ok (.aload 5, 2) := by decide +kernel
theorem d54 : decode yB 54 = .ok (.putfield 9, 3) := by decide +kernel
theorem d57 : decode yB 57 = .ok (.return_, 1) := by decide +kernel
def site : List Cond := [.fieldLink "java/lang/String" 38 "java/lang/String" "COMPACT_STRINGS" "Z", Cmp3.tab, CodL.tab, .laysFinal "java/lang/String" "java/lang/String" "value" "[B", .fieldLink "java/lang/String" 9 "java/lang/String" "value" "[B", .laysFinal "java/lang/String" "java/lang/String" "coder" "B", .fieldLink "java/lang/String" 15 "java/lang/String" "coder" "B"] ++ objW "java/lang/String" 1 ++ staticW "java/lang/String" 177 Cmp3.yN ++ staticW "java/lang/String" 47 CodL.yN
def tab : Cond := tabOf yN yB 6 none site
def P (a : Addr) (D : Cell) (fV fC : Field) (b : Addr) (A : Cell) (z : Int32) (o len : Nat) (args : Array Value) (s : State) : Prop := args = #[.ref a, .ref b, .int (Int32.ofNat o), .int (Int32.ofNat len), .null] ∧ Blank "java/lang/String" a D s ∧ Found "java/lang/String" "value" "[B" fV s ∧ Found "java/lang/String" "coder" "B" fC s ∧ Ch b A s ∧ StaticIs s "java/lang/String" "COMPACT_STRINGS" "Z" (.int z) ∧ ¬ z = 0 ∧ 0 < len ∧ o + len ≤ A.slots.size ∧ len ≤ 536870912 ∧ ∀ i, i < len → ¬ 255 < cv A (o + i)
def E (a : Addr) (D : Cell) (fV fC : Field) (A : Cell) (o len : Nat) (r : Option Value) (s u : State) : Prop := Got a D fV fC A o len r s u
/-- len > 0, no char of the range above 255: a Latin-1 String of their low bytes -/
theorem law (l : Launch) (a : Addr) (D : Cell) (fV fC : Field) (b : Addr) (A : Cell) (z : Int32) (o len : Nat) : Law l yN 5 4 2 35 yB 6 none site (P a D fV fC b A z o len) (E a D fV fC A o len) [⟨a, fC.slot⟩, ⟨a, fV.slot⟩] 1 len := by
  refine Law.of_walk (plainFor_of_name (by decide +kernel)) (by decide +kernel) (by decide +kernel) (by decide) (fun _ _ h => by rw [h.1]; rfl) (fun _ U U' hal hh h => ⟨h.1, h.2.1.mv hal hh, h.2.2.1.al hal, h.2.2.2.1.al hal, h.2.2.2.2.1.mv hal hh, h.2.2.2.2.2.1.there hal hh, h.2.2.2.2.2.2⟩) (fun r U U' V V' h1 hal h2 h => Got.mv r U U' V V' h1 hal h2 h) ?_
  intro p e s m args below meth c s₁ X0 hexec hbytes hml hret hlk hnm hown hh0 W hP
  obtain ⟨rfl, hB, f1, f2, hA, s1, hz, l0, l1, l2, hp⟩ := hP
  have a31 := hA.1.2.2.2
  have c1 : Steps p.tables e below (s₁.setTop (entryFrame m #[.ref a, .ref b, .int (Int32.ofNat o), .int (Int32.ofNat len), .null] 6)) (s₁.setTop (mkF m 0 #[.val (.ref a), .val (.ref b), .val (.int (Int32.ofNat o)), .val (.int (Int32.ofNat len)), .val .null, .unset] [])) := entry rfl
  have c2 : Steps p.tables e below (s₁.setTop (entryFrame m #[.ref a, .ref b, .int (Int32.ofNat o), .int (Int32.ofNat len), .null] 6)) (s₁.setTop (mkF m 1 #[.val (.ref a), .val (.ref b), .val (.int (Int32.ofNat o)), .val (.int (Int32.ofNat len)), .val .null, .unset] [.ref a])) := c1.trans (by
    refine XS.aloadN X0.here hexec rfl (hb hbytes d0) rfl rfl ?_
    exact Steps.refl _)
  obtain ⟨T3, X3, q3, st3⟩ := X0.oinit hexec hown (wks W (objW "java/lang/String" 1)) (g := (mkF m 1 #[.val (.ref a), .val (.ref b), .val (.int (Int32.ofNat o)), .val (.int (Int32.ofNat len)), .val .null, .unset] [.ref a])) rfl (by rw [hml]; rfl) (rest := []) rfl (hb hbytes d1) (W := 0) (by show 2 * 0 + 0 ≤ _; decide) (Nat.le_of_ble_eq_true rfl) (Nat.le_of_ble_eq_true rfl)
  have hh3 := q3.trans hh0
  have c4 : Steps p.tables e below (s₁.setTop (entryFrame m #[.ref a, .ref b, .int (Int32.ofNat o), .int (Int32.ofNat len), .null] 6)) (T3.setTop (mkF m 27 #[.val (.ref a), .val (.ref b), .val (.int (Int32.ofNat o)), .val (.int (Int32.ofNat len)), .val .null, .unset] [])) := (c2.trans (st3 _ (Steps.refl _))).trans (by
    refine XS.iloadN X3.here hexec rfl (hb hbytes d4) rfl ?_
    refine XS.ifYes X3.here hexec rfl (pc0 := 5) rfl (hb hbytes d5) rfl (i0_ne_t (nz32 (by omega) l0)) (by decide) rfl ?_
    exact Steps.refl _)
  obtain ⟨T5, X5, q5, st5⟩ := X3.sget hexec hown (wk W (.fieldLink "java/lang/String" 38 "java/lang/String" "COMPACT_STRINGS" "Z")) s1 (fun _ _ h => by rw [hh3]; exact h) (g := (mkF m 27 #[.val (.ref a), .val (.ref b), .val (.int (Int32.ofNat o)), .val (.int (Int32.ofNat len)), .val .null, .unset] [])) rfl (hb hbytes d27)
  have hh5 := q5.trans hh3
  have c6 : Steps p.tables e below (s₁.setTop (entryFrame m #[.ref a, .ref b, .int (Int32.ofNat o), .int (Int32.ofNat len), .null] 6)) (T5.setTop (mkF m 30 #[.val (.ref a), .val (.ref b), .val (.int (Int32.ofNat o)), .val (.int (Int32.ofNat len)), .val .null, .unset] [.int z])) := c4.trans (st5 _ (Steps.refl _))
  have c7 : Steps p.tables e below (s₁.setTop (entryFrame m #[.ref a, .ref b, .int (Int32.ofNat o), .int (Int32.ofNat len), .null] 6)) (T5.setTop (mkF m 36 #[.val (.ref a), .val (.ref b), .val (.int (Int32.ofNat o)), .val (.int (Int32.ofNat len)), .val .null, .unset] [.int (Int32.ofNat len), .int (Int32.ofNat o), .ref b])) := c6.trans (by
    refine XS.ifNo X5.here hexec rfl (hb hbytes d30) rfl (i0_eq_f hz) ?_
    refine XS.aloadN X5.here hexec rfl (hb hbytes d33) rfl rfl ?_
    refine XS.iloadN X5.here hexec rfl (hb hbytes d34) rfl ?_
    refine XS.iloadN X5.here hexec rfl (hb hbytes d35) rfl ?_
    exact Steps.refl _)
  obtain ⟨v8, T8, X8, E8, g8⟩ := X5.callS hexec (Cmp3.law l b A o len) hown (wks W (staticW "java/lang/String" 177 Cmp3.yN)) (wk W Cmp3.tab) (W := 0) (Nat.le_of_ble_eq_true rfl) (Nat.le_of_ble_eq_true rfl) (Nat.le_refl _) (by show 0 + len ≤ len; omega) (g := (mkF m 36 #[.val (.ref a), .val (.ref b), .val (.int (Int32.ofNat o)), .val (.int (Int32.ofNat len)), .val .null, .unset] [.int (Int32.ofNat len), .int (Int32.ofNat o), .ref b])) rfl (by rw [hml]; rfl) c7 (argsL := [.ref b, .int (Int32.ofNat o), .int (Int32.ofNat len)]) (rest := []) rfl rfl (by show 2 * 0 + 0 ≤ _; decide) (hb hbytes d36) (⟨rfl, hA.mv X5.warmed.alike hh5, l1, l2, hp⟩)
  obtain ⟨e8, z8⟩ := E8
  obtain ⟨rfl, N, n1, n2, n3, n4, n5, n6⟩ := NewArr.mv _ T5 s _ _ hh5.symm (Vm.Alike.refl _) rfl e8
  rw [hh5] at z8
  have hB1 := hB.keep X8.warmed.alike (n6 _ _ hB.1)
  have hne : s.heap.size ≠ a := (Nat.ne_of_lt (Array.getElem?_eq_some_iff.mp hB.1).1).symm
  have c9 : Steps p.tables e below (s₁.setTop (entryFrame m #[.ref a, .ref b, .int (Int32.ofNat o), .int (Int32.ofNat len), .null] 6)) (T8.setTop (mkF m 39 #[.val (.ref a), .val (.ref b), .val (.int (Int32.ofNat o)), .val (.int (Int32.ofNat len)), .val .null, .unset] [.ref s.heap.size])) := g8
  have c10 : Steps p.tables e below (s₁.setTop (entryFrame m #[.ref a, .ref b, .int (Int32.ofNat o), .int (Int32.ofNat len), .null] 6)) (T8.setTop (mkF m 45 #[.val (.ref a), .val (.ref b), .val (.int (Int32.ofNat o)), .val (.int (Int32.ofNat len)), .val .null, .val (.ref s.heap.size)] [.int (Int32.ofNat N.slots.size), .ref s.heap.size, .ref a])) := by
    have hc : Steps p.tables e below (s₁.setTop (entryFrame m #[.ref a, .ref b, .int (Int32.ofNat o), .int (Int32.ofNat len), .null] 6)) (T8.setTop (mkF m 45 #[.val (.ref a), .val (.ref b), .val (.int (Int32.ofNat o)), .val (.int (Int32.ofNat len)), .val .null, .val (.ref s.heap.size)] [.int (Int32.ofNat len), .ref s.heap.size, .ref a])) := c9.trans (by
      refine XS.astore X8.here hexec rfl (hb hbytes d39) rfl rfl rfl ?_
      refine XS.aloadN X8.here hexec rfl (hb hbytes d41) rfl rfl ?_
      refine XS.aload X8.here hexec rfl (hb hbytes d42) rfl rfl ?_
      refine XS.iloadN X8.here hexec rfl (hb hbytes d44) rfl ?_
      exact Steps.refl _)
    rw [n4]; exact hc
  obtain ⟨v11, T11, X11, E11, g11⟩ := X8.callS hexec (CodL.law l s.heap.size N) hown (wks W (staticW "java/lang/String" 47 CodL.yN)) (wk W CodL.tab) (W := 1) (Nat.le_of_ble_eq_true rfl) (Nat.le_of_ble_eq_true rfl) (Nat.le_refl _) (by show 0 + len + 0 ≤ len; omega) (g := (mkF m 45 #[.val (.ref a), .val (.ref b), .val (.int (Int32.ofNat o)), .val (.int (Int32.ofNat len)), .val .null, .val (.ref s.heap.size)] [.int (Int32.ofNat N.slots.size), .ref s.heap.size, .ref a])) rfl (by rw [hml]; rfl) c10 (argsL := [.ref s.heap.size, .int (Int32.ofNat N.slots.size)]) (rest := [.ref a]) rfl rfl (by show 2 * 0 + (1 + 0) ≤ _; decide) (hb hbytes d45) (⟨rfl, n1⟩)
  obtain ⟨rfl, q11⟩ := E11
  have hB11 := hB1.mv (X8.warmed.alike.symm.trans X11.warmed.alike) q11
  have c12 : Steps p.tables e below (s₁.setTop (entryFrame m #[.ref a, .ref b, .int (Int32.ofNat o), .int (Int32.ofNat len), .null] 6)) (T11.setTop (mkF m 48 #[.val (.ref a), .val (.ref b), .val (.int (Int32.ofNat o)), .val (.int (Int32.ofNat len)), .val .null, .val (.ref s.heap.size)] [.int 0, .ref a])) := g11
  obtain ⟨T13, X13, p13, bl13, sl13, st13⟩ := X11.finit hexec hown (wk W (.fieldLink "java/lang/String" 15 "java/lang/String" "coder" "B")) (Or.inr ⟨_, (wk W (.laysFinal "java/lang/String" "java/lang/String" "coder" "B"))⟩) (Or.inl ⟨rfl, hnm⟩) f2 (Or.inl rfl) hB11 (t := .byte) (by decide +kernel) rfl (g := (mkF m 48 #[.val (.ref a), .val (.ref b), .val (.int (Int32.ofNat o)), .val (.int (Int32.ofNat len)), .val .null, .val (.ref s.heap.size)] [.int 0, .ref a])) rfl (rest := []) rfl (hb hbytes d48)
  have c14 : Steps p.tables e below (s₁.setTop (entryFrame m #[.ref a, .ref b, .int (Int32.ofNat o), .int (Int32.ofNat len), .null] 6)) (T13.setTop (mkF m 54 #[.val (.ref a), .val (.ref b), .val (.int (Int32.ofNat o)), .val (.int (Int32.ofNat len)), .val .null, .val (.ref s.heap.size)] [.ref s.heap.size, .ref a])) := (c12.trans (st13 _ (Steps.refl _))).trans (by
    refine XS.aloadN X13.here hexec rfl (hb hbytes d51) rfl rfl ?_
    refine XS.aload X13.here hexec rfl (hb hbytes d52) rfl rfl ?_
    exact Steps.refl _)
  obtain ⟨T15, X15, p15, bl15, sl15, st15⟩ := X13.finit hexec hown (wk W (.fieldLink "java/lang/String" 9 "java/lang/String" "value" "[B")) (Or.inr ⟨_, (wk W (.laysFinal "java/lang/String" "java/lang/String" "value" "[B"))⟩) (Or.inl ⟨rfl, hnm⟩) f1 (Or.inl rfl) bl13 (t := (.array .byte)) (by decide +kernel) rfl (g := (mkF m 54 #[.val (.ref a), .val (.ref b), .val (.int (Int32.ofNat o)), .val (.int (Int32.ofNat len)), .val .null, .val (.ref s.heap.size)] [.ref s.heap.size, .ref a])) rfl (rest := []) rfl (hb hbytes d54)
  have c16 : Steps p.tables e below (s₁.setTop (entryFrame m #[.ref a, .ref b, .int (Int32.ofNat o), .int (Int32.ofNat len), .null] 6)) (T15.setTop (mkF m 57 #[.val (.ref a), .val (.ref b), .val (.int (Int32.ofNat o)), .val (.int (Int32.ofNat len)), .val .null, .val (.ref s.heap.size)] [])) := c14.trans (st15 _ (Steps.refl _))
  have ap := apart (Or.inr ⟨_, (wk W (.laysFinal "java/lang/String" "java/lang/String" "value" "[B"))⟩) (Or.inr ⟨_, (wk W (.laysFinal "java/lang/String" "java/lang/String" "coder" "B"))⟩) f1 f2 (t₁ := .array .byte) (t₂ := .byte) (by decide +kernel) (by decide +kernel) (by decide)
  have al := X8.warmed.alike.symm.trans X15.warmed.alike
  have n7 : T11.heap[s.heap.size]? = some N := by rw [q11]; exact n1.1
  exact ⟨T15, none, _, _, _, X15, by simp, rfl, by omega, (fun _ => rfl), ⟨rfl, _, N, bl15, ((Same.refl D _).set _ (by simp)).set _ (by simp), sl15, (Cell.slots_setSlot_ne _ ap).trans sl13, n1.keep al (p15.other hne (p13.other hne n7)), n2, by rw [al.findClass]; exact n3, n4, n5, fun y c h1 h2 => p15.other h1 (p13.other h1 (by rw [q11]; exact n6 y c h2)), by rw [p15.2.2, p13.2.2, q11]; exact z8⟩, fun fs hl => c16.trans (X15.returnOut hexec hret (hb hbytes d57) hl)⟩
end New4
namespace New1
def yN : MethodName := ⟨"java/lang/String", "<init>", "([C)V"⟩
abbrev yB : ByteArray := jdk_42_method_3_code
theorem d0 : decode yB 0 = .ok (.aload_n 0, 1) := by decide +kernel
theorem d1 : decode yB 1 = .ok (.aload_n 1, 1) := by decide +kernel
theorem d2 : decode yB 2 = .ok (.iconst 0, 1) := by decide +kernel
theorem d3 : decode yB 3 = .ok (.aload_n 1, 1) := by decide +kernel
theorem d4 : decode yB 4 = .ok (.arraylength, 1) := by decide +kernel
theorem d5 : decode yB 5 = .ok (.aconst_null, 1) := by decide +kernel
theorem d6 : decode yB 6 = .ok (.invokespecial 27, 3) := by decide +kernel
theorem d9 : decode yB 9 = .ok (.return_, 1) := by decide +kernel
def site : List Cond := [New4.tab] ++ initW "java/lang/String" 27 New4.yN
def tab : Cond := tabOf yN yB 2 none site
def P (a : Addr) (D : Cell) (fV fC : Field) (b : Addr) (A : Cell) (z : Int32) (args : Array Value) (s : State) : Prop := args = #[.ref a, .ref b] ∧ Blank "java/lang/String" a D s ∧ Found "java/lang/String" "value" "[B" fV s ∧ Found "java/lang/String" "coder" "B" fC s ∧ Ch b A s ∧ StaticIs s "java/lang/String" "COMPACT_STRINGS" "Z" (.int z) ∧ ¬ z = 0 ∧ 0 < A.slots.size ∧ A.slots.size ≤ 536870912 ∧ ∀ i, i < A.slots.size → ¬ 255 < cv A i
def E (a : Addr) (D : Cell) (fV fC : Field) (A : Cell) (r : Option Value) (s u : State) : Prop := Got a D fV fC A 0 A.slots.size r s u
/-- new String(chars), not empty, no char above 255: a Latin-1 String of their low bytes -/
theorem law (l : Launch) (a : Addr) (D : Cell) (fV fC : Field) (b : Addr) (A : Cell) (z : Int32) : Law l yN 2 1 3 52 yB 2 none site (P a D fV fC b A z) (E a D fV fC A) [⟨a, fC.slot⟩, ⟨a, fV.slot⟩] 1 A.slots.size := by
  refine Law.of_walk (plainFor_of_name (by decide +kernel)) (by decide +kernel) (by decide +kernel) (by decide) (fun _ _ h => by rw [h.1]; rfl) (fun _ U U' hal hh h => ⟨h.1, h.2.1.mv hal hh, h.2.2.1.al hal, h.2.2.2.1.al hal, h.2.2.2.2.1.mv hal hh, h.2.2.2.2.2.1.there hal hh, h.2.2.2.2.2.2⟩) (fun r U U' V V' h1 hal h2 h => Got.mv r U U' V V' h1 hal h2 h) ?_
  intro p e s m args below meth c s₁ X0 hexec hbytes hml hret hlk hnm hown hh0 W hP
  obtain ⟨rfl, hB, f1, f2, hA, s1, hz, l0, l2, hp⟩ := hP
  have c1 : Steps p.tables e below (s₁.setTop (entryFrame m #[.ref a, .ref b] 2)) (s₁.setTop (mkF m 0 #[.val (.ref a), .val (.ref b)] [])) := entry rfl
  have c2 : Steps p.tables e below (s₁.setTop (entryFrame m #[.ref a, .ref b] 2)) (s₁.setTop (mkF m 6 #[.val (.ref a), .val (.ref b)] [.null, .int (Int32.ofNat A.slots.size), .int 0, .ref b, .ref a])) := c1.trans (by
    refine XS.aloadN X0.here hexec rfl (hb hbytes d0) rfl rfl ?_
    refine XS.aloadN X0.here hexec rfl (hb hbytes d1) rfl rfl ?_
    refine iconstV X0.here hexec rfl 0 (hb hbytes d2) (by decide) ?_
    refine XS.aloadN X0.here hexec rfl (hb hbytes d3) rfl rfl ?_
    refine X0.alen hexec (hA.1.mv X0.warmed.alike hh0) rfl rfl (hb hbytes d4) ?_
    refine XS.aconstNull X0.here hexec rfl (hb hbytes d5) ?_
    exact Steps.refl _)
  obtain ⟨v3, T3, X3, E3, g3⟩ := X0.callN hexec (New4.law l a D fV fC b A z 0 A.slots.size) rfl hown (wks W (initW "java/lang/String" 27 New4.yN)) (W New4.tab (by simp only [site, List.mem_cons, List.mem_append, true_or, or_true])) (W := 0) (Nat.le_of_ble_eq_true rfl) (Nat.le_of_ble_eq_true rfl) (Nat.le_refl _) (by show 0 + A.slots.size ≤ A.slots.size; omega) (g := (mkF m 6 #[.val (.ref a), .val (.ref b)] [.null, .int (Int32.ofNat A.slots.size), .int (Int32.ofNat 0), .ref b, .ref a])) rfl (by rw [hml]; rfl) c2 (argsL := [.ref b, .int (Int32.ofNat 0), .int (Int32.ofNat A.slots.size), .null]) (rest := []) rfl rfl (by show 2 * 0 + 0 ≤ _; decide) (hb hbytes d6) (⟨rfl, hB.mv X0.warmed.alike hh0, f1.al X0.warmed.alike, f2.al X0.warmed.alike, hA.mv X0.warmed.alike hh0, s1.there X0.warmed.alike hh0, hz, l0, by omega, l2, fun i hi => by rw [Nat.zero_add]; exact hp i hi⟩)
  have e0 := Got.mv _ s₁ s _ _ hh0.symm (Vm.Alike.refl _) rfl E3
  obtain rfl := e0.1
  have c4 : Steps p.tables e below (s₁.setTop (entryFrame m #[.ref a, .ref b] 2)) (T3.setTop (mkF m 9 #[.val (.ref a), .val (.ref b)] [])) := g3
  exact ⟨T3, none, _, _, _, X3, by simp, rfl, by omega, (fun _ => rfl), e0, fun fs hl => c4.trans (X3.returnOut hexec hret (hb hbytes d9) hl)⟩
theorem pays {l : Launch} {R : Room} {p : Program} {e : Env} {below : List Frame} {s : State} {sargs : Array Value} {len W : Nat} (a : Addr) (D : Cell) (fV fC : Field) (b : Addr) (A : Cell) (z : Int32) (htab : tab.before sargs s = true) (hfr : 4 ≤ R.frames) (hlo : W + 65 ≤ R.locals) :
    Back l R p e below s sargs yN len W (fun A₁ a₁ => A₁.cells + 1 ≤ R.cells ∧ A₁.slots + A.slots.size ≤ R.slots ∧ P a D fV fC b A z a₁ A₁.U) (fun A₁ _ v₁ B₁ => E a D fV fC A v₁ A₁.U B₁.U ∧ B₁.locs = A₁.locs ++ [⟨a, fC.slot⟩, ⟨a, fV.slot⟩] ∧ B₁.cells = A₁.cells + 1 ∧ B₁.slots = A₁.slots + A.slots.size) :=
  (law l a D fV fC b A z).pays htab hfr (by omega)
end New1
end StrChars
namespace StrChars.Road
open Jvm Sem ClassFile Op Lib Jvm.Stand Jvm.Free Jvm.Free.XT
open Jvm.Lib.Cold (StaticIs)
abbrev ST : String := "java/lang/String"
/-- every table word that New1's law asks, flat -/
abbrev words : List Jvm.Cond := [.code New1.yN New1.yB 2 none, .initialized ST, .methodLink ST 27 New4.yN, .instanceMethod New4.yN,
  .code New4.yN New4.yB 6 none, .fieldLink ST 38 ST "COMPACT_STRINGS" "Z", .laysFinal ST ST "value" "[B", .fieldLink ST 9 ST "value" "[B", .laysFinal ST ST "coder" "B", .fieldLink ST 15 ST "coder" "B",
  .methodLink ST 1 Lib.objectInit, .instanceMethod Lib.objectInit, .code Lib.objectInit ⟨#[0xb1]⟩ 1 none, .methodLink ST 177 Cmp3.yN, .static Cmp3.yN, .methodLink ST 47 CodL.yN, .static CodL.yN,
  .code Cmp3.yN Cmp3.yB 6 (some (.array .byte)), .initialized U16, .arrayClass .byte, .methodLink U16 115 Cmp5.yN, .static Cmp5.yN, .code Cmp5.yN Cmp5.yB 7 (some .int), .code CodL.yN CodL.yB 2 (some .byte)]
theorem tab_of {a : Array Value} {s : State} (h : ∀ w ∈ words, w.before a s = true) : New1.tab.before a s = true := by
  have h5 : Cmp5.tab.before a s = true := unparts (wk h (.code Cmp5.yN Cmp5.yB 7 (some .int))) (wks h (.initialized Cmp5.yN.cls :: Cmp5.site))
  have hc : CodL.tab.before a s = true := unparts (wk h (.code CodL.yN CodL.yB 2 (some .byte))) (wks h (.initialized CodL.yN.cls :: CodL.site))
  have q5 : ∀ w ∈ Cmp5.tab :: words, w.before a s = true := fun w hw => (List.mem_cons.mp hw).elim (fun e => e ▸ h5) (h w)
  have h3 : Cmp3.tab.before a s = true := unparts (wk q5 (.code Cmp3.yN Cmp3.yB 6 (some (.array .byte)))) (wks q5 (.initialized Cmp3.yN.cls :: Cmp3.site))
  have q3 : ∀ w ∈ Cmp3.tab :: CodL.tab :: words, w.before a s = true := fun w hw => (List.mem_cons.mp hw).elim (fun e => e ▸ h3) fun hw => (List.mem_cons.mp hw).elim (fun e => e ▸ hc) (h w)
  have h4 : New4.tab.before a s = true := unparts (wk q3 (.code New4.yN New4.yB 6 none)) (wks q3 (.initialized New4.yN.cls :: New4.site))
  have q4 : ∀ w ∈ New4.tab :: words, w.before a s = true := fun w hw => (List.mem_cons.mp hw).elim (fun e => e ▸ h4) (h w)
  exact unparts (wk q4 (.code New1.yN New1.yB 2 none)) (wks q4 (.initialized New1.yN.cls :: New1.site))
/-- the words ride from the start Z to the walk's own state -/
theorem moved {Z s : State} {a0 args : Array Value} (hZ : Z.Warmed39 s.vm) (hw : ∀ d ∈ words, d.before a0 Z = true) : ∀ d ∈ words, d.before args s = true := fun d hd => by
  have q := hw d hd
  have t : ∀ d ∈ words, d = .arrayClass .byte ∨ (d.onTables && d.keepsFace) = true := by decide +kernel
  rcases t d hd with rfl | t
  · exact RoadKit.mvA hZ q
  · exact RoadKit.mv hZ q t
/-- WHAT COMES BACK, over the tables of the start Z: h the heap at the call, h' behind it -/
def Q (Z : State) (x : Addr) (A : Cell) (h : Heap) (v : Option Value) (h' : Heap) (L : List Loc) : Prop := v = none ∧ (∀ y ∈ L, y.base = x) ∧ RoadKit.Keep h h' [x] ∧ h'.size = h.size + 1 ∧ RoadKit.Exa Z h' x ST ∧ RoadKit.Fld Z h' x ST "value" "[B" (.ref h.size) ∧ RoadKit.Fld Z h' x ST "coder" "B" (.int 0) ∧
  (∃ V : Cell, RoadKit.Arr Z h' h.size V .byte ∧ V.vm = .none ∧ Z.vm.findClass "[B" = some V.cls ∧ V.slots.size = A.slots.size ∧ ∀ j, j < A.slots.size → V.slots[j]? = some (.int (lo8 (cv A j)))) ∧
  ∀ (O n d : String) (w : Value), RoadKit.Fld Z h x O n d w → RoadKit.slotOf Z O n d ≠ RoadKit.slotOf Z ST "value" "[B" → RoadKit.slotOf Z O n d ≠ RoadKit.slotOf Z ST "coder" "B" → RoadKit.Fld Z h' x O n d w
/-- **new String(chars) AT A CALL, IN THE ROAD'S FORM**: for specialBack behind newO: x the fresh String, b the char[] with the cell A -/
theorem back {p : Program} {l : Launch} {e : Env} {R : Room} {s : State} {args : Array Value} {below : List Frame} {len W : Nat} {Z : State} {a0 : Array Value} {h : Heap} (hZ : Z.Warmed39 s.vm) (hw : ∀ d ∈ words, d.before a0 Z = true) {kI : Nat} (wi : (Jvm.Cond.instantiable ST kI).before a0 Z = true)
    {x b : Addr} {A : Cell} {z : Int32} {v0 c0 : Value} (E : RoadKit.Exa Z h x ST) (V : RoadKit.Fld Z h x ST "value" "[B" v0) (C : RoadKit.Fld Z h x ST "coder" "B" c0) (K : RoadKit.Arr Z h b A .char) (hty : Typed .char A) (S : RoadKit.Sta Z h ST "COMPACT_STRINGS" "Z" (.int z)) (hz : ¬ z = 0)
    (l0 : 0 < A.slots.size) (l2 : A.slots.size ≤ 536870912) (hp : ∀ i, i < A.slots.size → ¬ 255 < cv A i) (hfr : 4 ≤ R.frames) (hlo : W + 65 ≤ R.locals) :
    Back l R p e below s args New1.yN len W (fun P a => a = #[.ref x, .ref b] ∧ P.U.heap = h ∧ P.cells + 1 ≤ R.cells ∧ P.slots + A.slots.size ≤ R.slots)
      (fun P _ v B => ∃ L, Q Z x A h v B.U.heap L ∧ B.locs = P.locs ++ L ∧ B.cells = P.cells + 1 ∧ B.slots = P.slots + A.slots.size) := by
  intro m meth c P g ig mk a X hg hsize hdg hW hn hp'
  obtain ⟨rfl, rfl, r1, r2⟩ := hp'
  have al : Z.vm.Alike P.U.vm := hZ.alike.trans X.warmed.alike
  obtain ⟨D, cfV, kV, iV, fV, hD, gV, stV, knV, obV, asV, slV⟩ := id V
  obtain ⟨D', cfC, kC, iC, fC, hD', gC, stC, -, -, asC, slC⟩ := id C
  cases hD.symm.trans hD'
  obtain ⟨D2, kD, e1, e2, e3, e4, e5⟩ := id E
  cases hD.symm.trans e1
  obtain ⟨c2, k2, i1, i2, i3, -⟩ := Cond.instantiable_spec wi
  cases e2.symm.trans i1
  cases e3.symm.trans i2
  obtain ⟨kU, u1, u2⟩ := al.2.2 _ _ e3
  have hB : Blank ST x D P.U := ⟨hD, ⟨knV, fun q hq => by rw [hq] at obV; cases obV⟩, by rw [al.findClass]; exact e2, kU, u1, by rw [u2]; exact i3, by rw [u2]; exact e5 i3⟩
  have F1 : Found ST "value" "[B" fV P.U := ⟨SBG.found_only al ⟨cfV, kV, iV, gV⟩, stV⟩
  have F2 : Found ST "coder" "B" fC P.U := ⟨SBG.found_only al ⟨cfC, kC, iC, gC⟩, stC⟩
  have hA : Ch b A P.U := ⟨⟨K.1, State.isArrayOf_alike al K.2.1, K.2.2, by omega⟩, hty⟩
  have hS : StaticIs P.U ST "COMPACT_STRINGS" "Z" (.int z) := by
    obtain ⟨cfS, iS, kS, fS, st, cS, t1, t2, t3, t4, t5, t6, t7⟩ := S
    exact StaticIs.there (s := { Z with heap := P.U.heap }) ⟨cfS, iS, kS, fS, st, cS, t1, t2, t3, t4, t5, (fun q => by rw [q] at t6; cases t6), t7⟩ al rfl
  obtain ⟨v, B, X', ⟨⟨hv, E', V', q1, q2, q3, q4, q5, q6, q7, q8, q9, q10, q11⟩, hl, hc, hs⟩, st⟩ := New1.pays x D fV fC b A z (tab_of (moved hZ hw)) hfr hlo m meth c P g ig mk _ X hg hsize hdg hW hn ⟨r1, r2, rfl, hB, F1, F2, hA, hS, hz, l0, l2, hp⟩
  have al' : Z.vm.Alike B.U.vm := hZ.alike.trans X'.warmed.alike
  have hsz : E'.slots.size = D.slots.size := by
    obtain ⟨-, -, -, kB, w1, w2, w3⟩ := q1
    obtain ⟨kB', y1, y2⟩ := al'.2.2 _ _ e3
    rw [q2.2.1] at w1
    cases w1.symm.trans y1
    rw [w3, e5 i3, y2]
  refine ⟨v, B, X', ⟨_, ⟨hv, ?_, ⟨by omega, fun y cy hy hn' => q10 y cy (by simpa using hn') hy, fun y cy hy => ?_⟩, q11, ⟨E', _, q1.1, by rw [q2.2.1]; exact e2, by rw [q2.2.1]; exact e3, by rw [q2.1]; exact obV, fun _ => by rw [hsz]; exact e5 i3⟩,
    ⟨E', cfV, kV, iV, fV, q1.1, gV, stV, by rw [q2.1]; exact knV, by rw [q2.1]; exact obV, by rw [q2.2.1]; exact asV, q3⟩, ⟨E', cfC, kC, iC, fC, q1.1, gC, stC, by rw [q2.1]; exact knV, by rw [q2.1]; exact obV, by rw [q2.2.1]; exact asC, q4⟩,
    ⟨V', ⟨q5.1, State.isArrayOf_alike al'.symm q5.2.1, q5.2.2.1⟩, q6, by rw [← al'.findClass]; exact q7, q8, fun j hj => by have := q9 j hj; rwa [Nat.zero_add] at this⟩, fun O n d w F n1 n2 => ?_⟩, hl, hc, hs⟩, st⟩
  · intro y hy
    simp only [List.mem_cons, List.not_mem_nil, or_false] at hy
    rcases hy with rfl | rfl <;> rfl
  · by_cases q : y = x
    · subst q
      cases hD.symm.trans hy
      exact ⟨E', q1.1, q2.2.1, q2.1, hsz⟩
    · exact ⟨cy, q10 y cy q hy, rfl, rfl, rfl⟩
  · obtain ⟨D3, cf, k, i, f, g1, g2, g3, g4, g5, g6, g7⟩ := F
    cases hD.symm.trans g1
    simp only [RoadKit.slotOf, g2, gV, gC, Option.map_some, Option.getD_some] at n1 n2
    exact ⟨E', cf, k, i, f, q1.1, g2, g3, by rw [q2.1]; exact g4, by rw [q2.1]; exact g5, by rw [q2.2.1]; exact g6, by rw [q2.2.2 f.slot (by simp [n1, n2])]; exact g7⟩
end StrChars.Road
namespace StrChars.Road
open Jvm Sem ClassFile Op Lib Jvm.Stand Jvm.Free Jvm.Free.XT
/-- WHAT COMES BACK, the byte[] as a list of values -/
def QA (Z : State) (x : Addr) (zn : Int32) (cs : List Int32) (h : Heap) (v : Option Value) (h' : Heap) (L : List Loc) : Prop := v = none ∧ (∀ y ∈ L, y.base = x) ∧ RoadKit.Keep h h' [x] ∧ h'.size = h.size + 1 ∧ RoadKit.Exa Z h' x ST ∧ RoadKit.Fld Z h' x ST "value" "[B" (.ref h.size) ∧ RoadKit.Fld Z h' x ST "coder" "B" (.int 0) ∧
  (∃ kb, Z.vm.findClass "[B" = some kb ∧ RoadKit.Arv Z h' h.size kb .byte zn (cs.map fun c => .int (lo8 c)) (.int 0)) ∧
  ∀ (O n d : String) (w : Value), RoadKit.Fld Z h x O n d w → RoadKit.slotOf Z O n d ≠ RoadKit.slotOf Z ST "value" "[B" → RoadKit.slotOf Z O n d ≠ RoadKit.slotOf Z ST "coder" "B" → RoadKit.Fld Z h' x O n d w
/-- **new String(chars) AT A CALL, THE ARRAYS AS LISTS**: the char[] at b holds cs, not empty, no char above 255 -/
theorem backArv {p : Program} {l : Launch} {e : Env} {R : Room} {s : State} {args : Array Value} {below : List Frame} {len W : Nat} {Z : State} {a0 : Array Value} {h : Heap} (hZ : Z.Warmed39 s.vm) (hw : ∀ d ∈ words, d.before a0 Z = true) {kI : Nat} (wi : (Jvm.Cond.instantiable ST kI).before a0 Z = true)
    {x b : Addr} {k : ClassId} {zn z : Int32} {cs : List Int32} {dv v0 c0 : Value} (E : RoadKit.Exa Z h x ST) (V : RoadKit.Fld Z h x ST "value" "[B" v0) (C : RoadKit.Fld Z h x ST "coder" "B" c0) (K : RoadKit.Arv Z h b k .char zn (cs.map Value.int) dv) (S : RoadKit.Sta Z h ST "COMPACT_STRINGS" "Z" (.int z)) (hz : ¬ z = 0)
    (hlen : zn.toNatClampNeg = cs.length) (h0 : 0 < cs.length) (hbig : cs.length ≤ 536870912) (hall : ∀ c ∈ cs, ¬ 255 < c) (hfr : 4 ≤ R.frames) (hlo : W + 65 ≤ R.locals) :
    Back l R p e below s args New1.yN len W (fun P a => a = #[.ref x, .ref b] ∧ P.U.heap = h ∧ P.cells + 1 ≤ R.cells ∧ P.slots + cs.length ≤ R.slots)
      (fun P _ v B => ∃ L, QA Z x zn cs h v B.U.heap L ∧ B.locs = P.locs ++ L ∧ B.cells = P.cells + 1 ∧ B.slots = P.slots + cs.length) := by
  obtain ⟨A, K1, K2, K3, K4, K5, K6⟩ := K
  have e : A.slots.size = cs.length := K3.trans hlen
  have hat : ∀ (i : Nat) (hi : i < cs.length), A.slots[i]? = some (.int cs[i]) := fun i hi => by rw [K5 i (by omega)]; simp [List.getD_eq_getElem?_getD, hi]
  have hcv : ∀ (i : Nat) (hi : i < cs.length), cv A i = cs[i] := fun i hi => by unfold cv; rw [hat i hi]
  have hty : Typed .char A := fun i v hv => by
    have hi : i < A.slots.size := (Array.getElem?_eq_some_iff.mp hv).1
    have q := K5 i hi
    rw [hv] at q
    rw [Option.some.inj q]
    exact K6 i hi
  refine Back.mono (back hZ hw wi E V C K1 hty S hz (by omega) (by omega) (fun i hi => by rw [hcv i (by omega)]; exact hall _ (List.getElem_mem _)) hfr hlo) (fun P a hp => ⟨hp.1, hp.2.1, hp.2.2.1, by rw [e]; exact hp.2.2.2⟩) (fun P a v B hp hq => ?_)
  obtain ⟨L, ⟨q1, q2, q3, q4, q5, q6, q7, ⟨V', v1, v2, v3, v4, v5⟩, q9⟩, hl, hc, hs⟩ := hq
  refine ⟨L, ⟨q1, q2, q3, q4, q5, q6, q7, ⟨V'.cls, v3, V', v1, rfl, by rw [v4, e, hlen], K4, fun i hi => ?_, fun i hi => ?_⟩, q9⟩, hl, hc, by rw [hs, e]⟩
  · have hi' : i < cs.length := by omega
    rw [v5 i (by omega), hcv i hi']; simp [List.getD_eq_getElem?_getD, hi']
  · have hi' : i < cs.length := by omega
    simp only [List.getD_eq_getElem?_getD, List.getElem?_map, List.getElem?_eq_getElem hi', Option.map_some, Option.getD_some]
    exact fits_lo8 _
end StrChars.Road
namespace StrChars.Road
open Jvm Sem ClassFile Op Lib Jvm.Stand Jvm.Free Jvm.Free.XT
/-- WHAT COMES BACK, in the writer's own shape -/
def QV (Z : State) (x : Addr) (N : Int32) (bs : List Int32) (h : Heap) (n0 : Nat) (v : Option Value) (h' : Heap) (L : List Loc) : Prop := v = none ∧ RoadKit.Fr n0 L ∧ RoadKit.Keep h h' [x] ∧ RoadKit.Exa Z h' x ST ∧ RoadKit.Fld Z h' x ST "coder" "B" (.int 0) ∧
  ∃ (t : Addr) (kb : ClassId), n0 ≤ t ∧ h.size ≤ t ∧ ¬ t = x ∧ RoadKit.Fld Z h' x ST "value" "[B" (.ref t) ∧ RoadKit.Arv Z h' t kb .byte N (bs.map Value.int) (.int 0)
/-- **new String(chars) AT A CALL, FOR THE WRITER**: a char[] of n known ints, each 0 to 255 -/
theorem backV {p : Program} {l : Launch} {e : Env} {R : Room} {s : State} {args : Array Value} {below : List Frame} {len W : Nat} {Z : State} {a0 : Array Value} {h : Heap} (hZ : Z.Warmed39 s.vm) (hw : ∀ d ∈ words, d.before a0 Z = true) {kI : Nat} (wi : (Jvm.Cond.instantiable ST kI).before a0 Z = true)
    {x b : Addr} {kC : ClassId} {cs bs : List Int32} {d v0 c0 : Value} {z N : Int32} {n n0 : Nat} (hx0 : n0 ≤ x) (hh0 : n0 ≤ h.size) (E : RoadKit.Exa Z h x ST) (V : RoadKit.Fld Z h x ST "value" "[B" v0) (C : RoadKit.Fld Z h x ST "coder" "B" c0) (K : RoadKit.Arv Z h b kC .char N (cs.map Value.int) d) (S : RoadKit.Sta Z h ST "COMPACT_STRINGS" "Z" (.int z)) (hz : ¬ z = 0)
    (hn : cs.length = n) (hN : N = Int32.ofNat n) (l0 : 0 < n) (l2 : n ≤ 4000) (hp : ∀ c ∈ cs, ¬ c < 0 ∧ ¬ (255 : Int32) < c) (hb : bs = cs.map (fun c => c.toInt8.toInt32)) (hfr : 4 ≤ R.frames) (hlo : W + 65 ≤ R.locals) :
    Back l R p e below s args (⟨"java/lang/String", "<init>", "([C)V"⟩ : MethodName) len W (fun P a => a = #[.ref x, .ref b] ∧ P.U.heap = h ∧ P.cells + 1 ≤ R.cells ∧ P.slots + n ≤ R.slots)
      (fun P _ v B => ∃ L, QV Z x N bs h n0 v B.U.heap L ∧ B.locs = P.locs ++ L ∧ B.cells = P.cells + 1 ∧ B.slots = P.slots + n) := by
  subst hn hN hb
  refine Back.mono (backArv hZ hw wi E V C K S hz (n32 (by omega)) l0 (by omega) (fun c hc => (hp c hc).2) hfr hlo) (fun P a hp => hp) (fun P a v B hp hq => ?_)
  obtain ⟨L, ⟨q1, q2, q3, q4, q5, q6, q7, ⟨kb, v1, v2⟩, q9⟩, hl, hc, hs⟩ := hq
  exact ⟨L, ⟨q1, fun y hy => by rw [q2 y hy]; exact hx0, q3, q5, q7, h.size, kb, hh0, Nat.le_refl _, Nat.ne_of_gt E.lt, q6, by rw [List.map_map]; exact v2⟩, hl, hc, hs⟩
end StrChars.Road
end Jvm.Pilot.@@N@@
namespace Jvm.RoadKit
open Sem ClassFile Op Lib Jvm.Stand Jvm.Free Jvm.LawKit
section New
variable {p : Program} {l : Launch} {e : Env} {R : Room} {s : State} {m : MethodId} {args : Array Value} {below : List Frame} {meth : Method} {c : Code} {T : State} {locs : List Loc} {cells slots : Nat}
theorem retI (X : Stand p l e R s m args below meth c T locs cells slots) (hx : p.tables.exec = Jvm.exec) {pc : Nat} {Ls : Array Slot} {z : Int32} {rest : List Value} (hret : meth.sig.returnType = some .int) (hd : decode c.code pc = .ok (.ireturn, 1)) {fs : List Frame}
    (hl : ∀ (f : JFrame) (acts : List Action), f.method = m → f.locked = none → f.entered = [] → (doReturn e (T.setTop f) acts (some (.int z))).1 = T.setFrames fs) : Steps p.tables e below (T.setTop (mkF m pc Ls (.int z :: rest))) (T.setFrames fs) := by
  have hm' : T.vm.method? m = some meth := X.method'
  have hn : narrow .int (.int z) = .int z := rfl
  show Steps p.tables e below (T.setTop { method := m, pc := pc, locals := Ls, stack := _ :: rest, locked := none }) _
  jvm_step X.here [X.here.top, hx, hd, hm', hret, hn]
  first | (intro acts; rw [hl _ acts rfl rfl rfl]) | rw [hl _ _ rfl rfl rfl]
  exact Steps.refl _
end New
end Jvm.RoadKit
namespace Jvm.Pilot.@@N@@
open Jvm Jvm.ClassFile Sem Op Lib Jvm.Free Jvm.Stand Jvm.LawKit Jvm.RoadKit Bundle Jvm.Pilot.@@N@@.Jvm.D
/-- a truth value as the machine holds it -/
def bi (P : Prop) [Decidable P] : Int32 := if P then 1 else 0
theorem bi_t {P : Prop} [Decidable P] (h : P) : bi P = 1 := if_pos h
theorem bi_f {P : Prop} [Decidable P] (h : ¬ P) : bi P = 0 := if_neg h
theorem bi_n {P : Prop} [Decidable P] (h : P) : ¬ (bi P = 0) := by rw [bi_t h]; decide
theorem bi_nar {P : Prop} [Decidable P] : nar .boolean (bi P) = bi P := by
  by_cases h : P
  · rw [bi_t h]; rfl
  · rw [bi_f h]; rfl
theorem bi_c {P Q : Prop} [Decidable P] [Decidable Q] (h : P ↔ Q) : bi P = bi Q := by
  by_cases k : P
  · rw [bi_t k, bi_t (h.mp k)]
  · rw [bi_f k, bi_f fun x => k (h.mpr x)]
theorem own_ext {h h' : Heap} (K : Keep h h' []) : Ext h h' := ⟨K.1, fun a c r => K.2.1 a c r nin0⟩
theorem own_staK {Z : State} {h h' : Heap} {C n d : String} {v : Value} {ws : List Addr} (F : Sta Z h C n d v) (K : Keep h h' ws) (r : ∀ x ∈ ws, ∃ D, Exa Z h x D) : Sta Z h' C n d v := by
  obtain ⟨cf, i, k, f, st, cell, h1, h2, h3, h4, h5, h6, h7⟩ := F
  refine ⟨cf, i, k, f, st, cell, h1, h2, h3, h4, K.2.1 _ _ h5 (fun u => ?_), h6, h7⟩
  obtain ⟨D, c2, k2, g1, g2, g3, g4, g5⟩ := r st u
  cases h5.symm.trans g1
  rw [h6] at g4; cases g4
theorem own_eqI {args : Array Value} {s : State} {t : Term} {n : Int32} (h : (Jvm.Cond.eq t (.int n)).value args s none s [] = some true) : t.eval args s none [] s = some (.int n) := by
  obtain ⟨x, y, h1, h2, k1, k2⟩ := cmp_v (Or.inl h)
  cases (Term.int_eval n).symm.trans h2
  obtain ⟨z, rfl⟩ := k2
  have u := gotT (show (Jvm.Cond.eq t (.int n)).value args s none s [] = some (decide (z = n)) from by simp [Cond.value, h1, Term.eval]) h
  rw [h1, u]
theorem own_eqL {args : Array Value} {s : State} {t : Term} {n : Int64} (h : (Jvm.Cond.eq t (.long n)).value args s none s [] = some true) : t.eval args s none [] s = some (.long n) := by
  obtain ⟨x, y, h1, h2, k1, k2⟩ := cmp_v (Or.inl h)
  cases (long_at n).symm.trans h2
  obtain ⟨z, rfl⟩ := k2
  have u := gotT (eq_L h1 (long_at n)) h
  rw [h1, u]
theorem own_c255 (x : Int32) : ¬ (nar .char ((x &&& (255 : Int32)).toUInt32.toUInt16.toUInt32.toInt32)) < 0 ∧ ¬ (255 : Int32) < (nar .char ((x &&& (255 : Int32)).toUInt32.toUInt16.toUInt32.toInt32)) := by
  have t : ∀ k : Fin 256, ¬ nar .char ((Int32.ofNat k.val).toUInt32.toUInt16.toUInt32.toInt32) < 0 ∧ ¬ (255 : Int32) < nar .char ((Int32.ofNat k.val).toUInt32.toUInt16.toUInt32.toInt32) := by decide +kernel
  have h : (x &&& 255).toBitVec.toNat < 256 := by
    simp only [Int32.toBitVec_and, BitVec.toNat_and]
    exact Nat.lt_succ_of_le Nat.and_le_right
  have e : (x &&& 255) = Int32.ofNat (x &&& 255).toBitVec.toNat := by
    apply Int32.toBitVec_inj.mp
    show _ = BitVec.ofNat 32 _
    rw [BitVec.ofNat_toNat]; simp
  rw [e]
  exact t ⟨_, h⟩
theorem own_up (cs : List Int32) (h : ∀ c ∈ cs, ¬ c < 0 ∧ ¬ (255 : Int32) < c) : ∀ c ∈ cs, ¬ c < 0 ∧ ¬ (65535 : Int32) < c := fun c hc => ⟨(h c hc).1, fun k => (h c hc).2 (by rw [Int32.lt_iff_toInt_lt] at k ⊢; have e1 : (65535 : Int32).toInt = 65535 := rfl; have e2 : (255 : Int32).toInt = 255 := rfl; omega)⟩
theorem own_narc (c : Int32) (h : ¬ c < 0 ∧ ¬ (255 : Int32) < c) : nar .char c = c := by
  obtain ⟨h1, h2⟩ := h
  rw [Int32.lt_iff_toInt_lt] at h1 h2
  have e0 : (0 : Int32).toInt = 0 := rfl
  have e2 : (255 : Int32).toInt = 255 := rfl
  have h3 := c_i2c c
  apply Int32.toInt_inj.mp
  show c.toUInt32.toUInt16.toUInt32.toInt32.toInt = c.toInt
  omega
theorem own_words : ∀ d ∈ StrChars.Road.words, d ∈ tables_1 := by decide +kernel
theorem own_lt {x : Int32} (h : x < (-1 : Int32)) : ¬ (x = (-1 : Int32)) := fun k => by rw [k] at h; exact absurd h (by decide)
theorem own_gt {x : Int32} (h : (-1 : Int32) < x) : ¬ (x = (-1 : Int32)) := fun k => by rw [k] at h; exact absurd h (by decide)
theorem own_mid {x : Int32} (h1 : ¬ (x < (-1 : Int32))) (h2 : ¬ ((-1 : Int32) < x)) : x = (-1 : Int32) := by
  rw [Int32.lt_iff_toInt_lt] at h1 h2
  exact Int32.toInt_inj.mp (by omega)
theorem d1_0 : decode method_2_code 0 = .ok (.iload_n 0, 1) := by decide +kernel
theorem d1_1 : decode method_2_code 1 = .ok (.ifCond .ne 7, 3) := by decide +kernel
theorem d1_4 : decode method_2_code 4 = .ok (.getstatic 7, 3) := by decide +kernel
theorem d1_7 : decode method_2_code 7 = .ok (.areturn, 1) := by decide +kernel
theorem d1_8 : decode method_2_code 8 = .ok (.iload_n 0, 1) := by decide +kernel
theorem d1_9 : decode method_2_code 9 = .ok (.iconst 1, 1) := by decide +kernel
theorem d1_10 : decode method_2_code 10 = .ok (.if_icmp .ne 7, 3) := by decide +kernel
theorem d1_13 : decode method_2_code 13 = .ok (.getstatic 13, 3) := by decide +kernel
theorem d1_16 : decode method_2_code 16 = .ok (.areturn, 1) := by decide +kernel
theorem d1_17 : decode method_2_code 17 = .ok (.iload_n 0, 1) := by decide +kernel
theorem d1_18 : decode method_2_code 18 = .ok (.iconst 2, 1) := by decide +kernel
theorem d1_19 : decode method_2_code 19 = .ok (.if_icmp .ne 7, 3) := by decide +kernel
theorem d1_22 : decode method_2_code 22 = .ok (.getstatic 16, 3) := by decide +kernel
theorem d1_25 : decode method_2_code 25 = .ok (.areturn, 1) := by decide +kernel
theorem d1_26 : decode method_2_code 26 = .ok (.getstatic 19, 3) := by decide +kernel
theorem d1_29 : decode method_2_code 29 = .ok (.areturn, 1) := by decide +kernel
theorem pn_1 : plainName "com/example/nestor/nestor/core/OccurrenceHasLinePinLaw" = true := by first | (simp [plainName, overriddenIn]; done) | decide +kernel
theorem ef_rm1 (m : MethodId) (p0 : Int32) : entryFrame m #[(.int p0)] 1 = mkF m 0 #[.val (.int p0)] [] := by first | (simp [entryFrame, mkF, argsToLocals, Value.category]; done) | rfl
def Qrm1 (Z : State) (p0 : Int32) (w0 : Addr) (w1 : Addr) (w2 : Addr) (w3 : Addr) (h0 : Heap) (n0 : Nat) (v : Option Value) (h : Heap) (L : List Loc) : Prop := ∃ r : Addr, v = some (.ref r) ∧ Fr n0 L ∧ h = h0
set_option maxRecDepth 65536 in
set_option maxHeartbeats 40000000 in
theorem rm1 (l : Launch) (Z : State) (a0 : Array Value) (hw : ∀ d ∈ tables_1, d.before a0 Z = true) (ws : List Jvm.Cond) (p0 : Int32) (w0 : Addr) (w1 : Addr) (w2 : Addr) (w3 : Addr) (h0 : Heap) (n0 : Nat) (Z0 : n0 ≤ h0.size) (H0 : Sta Z h0 "com/example/nestor/nestor/model/UseKind" "CALL" "Lcom/example/nestor/nestor/model/UseKind;" (.ref w0)) (H1 : Sta Z h0 "com/example/nestor/nestor/model/UseKind" "NEW" "Lcom/example/nestor/nestor/model/UseKind;" (.ref w1)) (H2 : Sta Z h0 "com/example/nestor/nestor/model/UseKind" "FIELD_TYPE" "Lcom/example/nestor/nestor/model/UseKind;" (.ref w2)) (H3 : Sta Z h0 "com/example/nestor/nestor/model/UseKind" "EXTENDS" "Lcom/example/nestor/nestor/model/UseKind;" (.ref w3)) :
    MetFree l (⟨"com/example/nestor/nestor/core/OccurrenceHasLinePinLaw", "kindOf", "(I)Lcom/example/nestor/nestor/model/UseKind;"⟩ : MethodName) (head1 (Jvm.Cond.code (⟨"com/example/nestor/nestor/core/OccurrenceHasLinePinLaw", "kindOf", "(I)Lcom/example/nestor/nestor/model/UseKind;"⟩ : MethodName) method_2_code 1 (some (.object "com/example/nestor/nestor/model/UseKind")) :: ws) ({ frames := 0, cells := 0, slots := 0, locals := 0 } : Room)) (fun a U => a = #[(.int p0)] ∧ Z.Warmed39 U.vm ∧ U.heap = h0) (fun _ _ _ _ _ => True) (fun _ U o U' => ∃ v L, o = .returned v ∧ Qrm1 Z p0 w0 w1 w2 w3 h0 n0 v U'.heap L ∧ FrameEnd U o U' L ({ frames := 0, cells := 0, slots := 0, locals := 0 } : Room).cells ({ frames := 0, cells := 0, slots := 0, locals := 0 } : Room).slots) := by
  refine MetFree.of_bodySF (plainFor_of_name pn_1) hisR ?_
  intro p e s m args below meth c s₁ Bd hml0 hP hK
  obtain ⟨rfl, hZ, hh⟩ := hP
  have hx := Bd.exec
  have hby := Bd.bytes
  have hml : c.maxLocals = 1 := hml0
  have hown : s.vm.findClass "com/example/nestor/nestor/core/OccurrenceHasLinePinLaw" = some m.cls := findClass_of_methodNamed Bd.named
  have hnm := (name_of_methodNamed Bd.named Bd.method).1
  have X0 : Stand p l e ({ frames := 0, cells := 0, slots := 0, locals := 0 } : Room) s m #[(.int p0)] below meth c s₁ [] 0 0 := Stand.of_body Bd
  have e0 : s₁.heap = h0 := by rw [← hh, Bd.state]; rfl
  have N0 := Fr.nil n0
  have pre0 : ∀ t, Steps p.tables e below (s₁.setTop (mkF m 0 #[.val (.int p0)] [])) t → Steps p.tables e below (s₁.setTop (entryFrame m #[(.int p0)] 1)) t := fun t k => castTop (ef_rm1 m p0) k
  have KC0 : Keep h0 h0 [] := Keep.refl _ _
  have pre1 : ∀ t, Steps p.tables e below (s₁.setTop (mkF m 1 #[.val (.int p0)] [(.int p0)])) t → Steps p.tables e below (s₁.setTop (entryFrame m #[(.int p0)] 1)) t := fun t k => by
    refine pre0 _ ?_
    show Steps p.tables e below (s₁.setTop (mkF m 0 #[.val (.int p0)] [])) _
    refine XS.iloadN X0.here hx rfl (hb hby d1_0) rfl ?_
    exact k
  by_cases hc2 : p0 = (0 : Int32)
  · obtain ⟨T3, X3, e3, st3⟩ := getS2 X0 hx hZ hown (host := "") (Or.inl (hw _ (List.mem_of_getElem? (i := 4) rfl))) Via.refl e0 H0 (g := (mkF m 4 #[.val (.int p0)] [])) rfl (hb hby d1_4)
    obtain ⟨fs, hr, hrun, hended, hW, hsame⟩ := X3.leave (v := some (.ref w0)) (fun h => by rw [Bd.returns] at h; cases h)
    refine ⟨_, _, pre1 _ ?_, hrun, hended, _, _, rfl, ?_, ⟨_, rfl⟩, hW, hsame.mono (by decide) (by decide)⟩
    · show Steps p.tables e below (s₁.setTop (mkF m 1 #[.val (.int p0)] [(.int p0)])) _
      refine XS.ifNo X0.here hx rfl (hb hby d1_1) rfl ((if0 _ _).trans (teq (hc2 : p0 = (0 : Int32))).2) ?_
      show Steps p.tables e below (s₁.setTop (mkF m 4 #[.val (.int p0)] [])) _
      refine st3 _ ?_
      show Steps p.tables e below (T3.setTop (mkF m 7 #[.val (.int p0)] [(.ref w0)])) _
      jvm_step X3.here [X3.here.top, hx, (hb hby d1_7), X3.method', Bd.returns, Value.isRef, FieldType.isReference]
      first | (intro acts; rw [hr _ acts rfl rfl rfl]) | rw [hr _ _ rfl rfl rfl]
      exact Steps.refl _
    · show Qrm1 Z p0 w0 w1 w2 w3 h0 n0 _ T3.heap _
      rw [e3]
      exact ⟨w0, rfl, N0, rfl⟩
  · have pre4 : ∀ t, Steps p.tables e below (s₁.setTop (mkF m 10 #[.val (.int p0)] [(.int (1 : Int32)), (.int p0)])) t → Steps p.tables e below (s₁.setTop (entryFrame m #[(.int p0)] 1)) t := fun t k => by
      refine pre1 _ ?_
      show Steps p.tables e below (s₁.setTop (mkF m 1 #[.val (.int p0)] [(.int p0)])) _
      refine XS.ifYes X0.here hx rfl (pc0 := 1) (pc' := 8) rfl (hb hby d1_1) rfl ((if0 _ _).trans (feq (hc2 : ¬ (p0 = (0 : Int32)))).2) (by decide) (by decide) ?_
      show Steps p.tables e below (s₁.setTop (mkF m 8 #[.val (.int p0)] [])) _
      refine XS.iloadN X0.here hx rfl (hb hby d1_8) rfl ?_
      show Steps p.tables e below (s₁.setTop (mkF m 9 #[.val (.int p0)] [(.int p0)])) _
      refine XS.iconst X0.here hx rfl (hb hby d1_9) ?_
      exact k
    by_cases hc5 : p0 = (1 : Int32)
    · obtain ⟨T6, X6, e6, st6⟩ := getS2 X0 hx hZ hown (host := "") (Or.inl (hw _ (List.mem_of_getElem? (i := 76) rfl))) Via.refl e0 H1 (g := (mkF m 13 #[.val (.int p0)] [])) rfl (hb hby d1_13)
      obtain ⟨fs, hr, hrun, hended, hW, hsame⟩ := X6.leave (v := some (.ref w1)) (fun h => by rw [Bd.returns] at h; cases h)
      refine ⟨_, _, pre4 _ ?_, hrun, hended, _, _, rfl, ?_, ⟨_, rfl⟩, hW, hsame.mono (by decide) (by decide)⟩
      · show Steps p.tables e below (s₁.setTop (mkF m 10 #[.val (.int p0)] [(.int (1 : Int32)), (.int p0)])) _
        refine XS.icmpNo X0.here hx rfl (hb hby d1_10) rfl (teq (hc5 : p0 = (1 : Int32))).2 ?_
        show Steps p.tables e below (s₁.setTop (mkF m 13 #[.val (.int p0)] [])) _
        refine st6 _ ?_
        show Steps p.tables e below (T6.setTop (mkF m 16 #[.val (.int p0)] [(.ref w1)])) _
        jvm_step X6.here [X6.here.top, hx, (hb hby d1_16), X6.method', Bd.returns, Value.isRef, FieldType.isReference]
        first | (intro acts; rw [hr _ acts rfl rfl rfl]) | rw [hr _ _ rfl rfl rfl]
        exact Steps.refl _
      · show Qrm1 Z p0 w0 w1 w2 w3 h0 n0 _ T6.heap _
        rw [e6]
        exact ⟨w1, rfl, N0, rfl⟩
    · have pre7 : ∀ t, Steps p.tables e below (s₁.setTop (mkF m 19 #[.val (.int p0)] [(.int (2 : Int32)), (.int p0)])) t → Steps p.tables e below (s₁.setTop (entryFrame m #[(.int p0)] 1)) t := fun t k => by
        refine pre4 _ ?_
        show Steps p.tables e below (s₁.setTop (mkF m 10 #[.val (.int p0)] [(.int (1 : Int32)), (.int p0)])) _
        refine XS.icmpYes X0.here hx rfl (pc0 := 10) (pc' := 17) rfl (hb hby d1_10) rfl (feq (hc5 : ¬ (p0 = (1 : Int32)))).2 (by decide) (by decide) ?_
        show Steps p.tables e below (s₁.setTop (mkF m 17 #[.val (.int p0)] [])) _
        refine XS.iloadN X0.here hx rfl (hb hby d1_17) rfl ?_
        show Steps p.tables e below (s₁.setTop (mkF m 18 #[.val (.int p0)] [(.int p0)])) _
        refine XS.iconst X0.here hx rfl (hb hby d1_18) ?_
        exact k
      by_cases hc8 : p0 = (2 : Int32)
      · obtain ⟨T9, X9, e9, st9⟩ := getS2 X0 hx hZ hown (host := "") (Or.inl (hw _ (List.mem_of_getElem? (i := 78) rfl))) Via.refl e0 H2 (g := (mkF m 22 #[.val (.int p0)] [])) rfl (hb hby d1_22)
        obtain ⟨fs, hr, hrun, hended, hW, hsame⟩ := X9.leave (v := some (.ref w2)) (fun h => by rw [Bd.returns] at h; cases h)
        refine ⟨_, _, pre7 _ ?_, hrun, hended, _, _, rfl, ?_, ⟨_, rfl⟩, hW, hsame.mono (by decide) (by decide)⟩
        · show Steps p.tables e below (s₁.setTop (mkF m 19 #[.val (.int p0)] [(.int (2 : Int32)), (.int p0)])) _
          refine XS.icmpNo X0.here hx rfl (hb hby d1_19) rfl (teq (hc8 : p0 = (2 : Int32))).2 ?_
          show Steps p.tables e below (s₁.setTop (mkF m 22 #[.val (.int p0)] [])) _
          refine st9 _ ?_
          show Steps p.tables e below (T9.setTop (mkF m 25 #[.val (.int p0)] [(.ref w2)])) _
          jvm_step X9.here [X9.here.top, hx, (hb hby d1_25), X9.method', Bd.returns, Value.isRef, FieldType.isReference]
          first | (intro acts; rw [hr _ acts rfl rfl rfl]) | rw [hr _ _ rfl rfl rfl]
          exact Steps.refl _
        · show Qrm1 Z p0 w0 w1 w2 w3 h0 n0 _ T9.heap _
          rw [e9]
          exact ⟨w2, rfl, N0, rfl⟩
      · obtain ⟨T10, X10, e10, st10⟩ := getS2 X0 hx hZ hown (host := "") (Or.inl (hw _ (List.mem_of_getElem? (i := 80) rfl))) Via.refl e0 H3 (g := (mkF m 26 #[.val (.int p0)] [])) rfl (hb hby d1_26)
        obtain ⟨fs, hr, hrun, hended, hW, hsame⟩ := X10.leave (v := some (.ref w3)) (fun h => by rw [Bd.returns] at h; cases h)
        refine ⟨_, _, pre7 _ ?_, hrun, hended, _, _, rfl, ?_, ⟨_, rfl⟩, hW, hsame.mono (by decide) (by decide)⟩
        · show Steps p.tables e below (s₁.setTop (mkF m 19 #[.val (.int p0)] [(.int (2 : Int32)), (.int p0)])) _
          refine XS.icmpYes X0.here hx rfl (pc0 := 19) (pc' := 26) rfl (hb hby d1_19) rfl (feq (hc8 : ¬ (p0 = (2 : Int32)))).2 (by decide) (by decide) ?_
          show Steps p.tables e below (s₁.setTop (mkF m 26 #[.val (.int p0)] [])) _
          refine st10 _ ?_
          show Steps p.tables e below (T10.setTop (mkF m 29 #[.val (.int p0)] [(.ref w3)])) _
          jvm_step X10.here [X10.here.top, hx, (hb hby d1_29), X10.method', Bd.returns, Value.isRef, FieldType.isReference]
          first | (intro acts; rw [hr _ acts rfl rfl rfl]) | rw [hr _ _ rfl rfl rfl]
          exact Steps.refl _
        · show Qrm1 Z p0 w0 w1 w2 w3 h0 n0 _ T10.heap _
          rw [e10]
          exact ⟨w3, rfl, N0, rfl⟩
theorem d10_0 : decode jdk_31_method_11_code 0 = .ok (.aload_n 0, 1) := by decide +kernel
theorem d10_1 : decode jdk_31_method_11_code 1 = .ok (.ifnonnull 12, 3) := by decide +kernel
theorem d10_13 : decode jdk_31_method_11_code 13 = .ok (.aload_n 0, 1) := by decide +kernel
theorem d10_14 : decode jdk_31_method_11_code 14 = .ok (.areturn, 1) := by decide +kernel
theorem pn_10 : plainName "java/util/Objects" = true := by first | (simp [plainName, overriddenIn]; done) | decide +kernel
theorem ef_rm10 (m : MethodId) (o0 : Addr) (o1 : Addr) : entryFrame m #[(.ref o0), (.ref o1)] 2 = mkF m 0 #[.val (.ref o0), .val (.ref o1)] [] := by first | (simp [entryFrame, mkF, argsToLocals, Value.category]; done) | rfl
def Qrm10 (Z : State) (o0 : Addr) (o1 : Addr) (h0 : Heap) (n0 : Nat) (v : Option Value) (h : Heap) (L : List Loc) : Prop := v = some (.ref o0) ∧ Fr n0 L ∧ h = h0
set_option maxRecDepth 65536 in
set_option maxHeartbeats 40000000 in
theorem rm10 (l : Launch) (Z : State) (a0 : Array Value) (hw : ∀ d ∈ tables_1, d.before a0 Z = true) (ws : List Jvm.Cond) (o0 : Addr) (o1 : Addr) (h0 : Heap) (n0 : Nat) (Z0 : n0 ≤ h0.size) :
    MetFree l (⟨"java/util/Objects", "requireNonNull", "(Ljava/lang/Object;Ljava/lang/String;)Ljava/lang/Object;"⟩ : MethodName) (head1 (Jvm.Cond.code (⟨"java/util/Objects", "requireNonNull", "(Ljava/lang/Object;Ljava/lang/String;)Ljava/lang/Object;"⟩ : MethodName) jdk_31_method_11_code 2 (some (.object "java/lang/Object")) :: ws) ({ frames := 0, cells := 0, slots := 0, locals := 0 } : Room)) (fun a U => a = #[(.ref o0), (.ref o1)] ∧ Z.Warmed39 U.vm ∧ U.heap = h0) (fun _ _ _ _ _ => True) (fun _ U o U' => ∃ v L, o = .returned v ∧ Qrm10 Z o0 o1 h0 n0 v U'.heap L ∧ FrameEnd U o U' L ({ frames := 0, cells := 0, slots := 0, locals := 0 } : Room).cells ({ frames := 0, cells := 0, slots := 0, locals := 0 } : Room).slots) := by
  refine MetFree.of_bodySF (plainFor_of_name pn_10) hisR ?_
  intro p e s m args below meth c s₁ Bd hml0 hP hK
  obtain ⟨rfl, hZ, hh⟩ := hP
  have hx := Bd.exec
  have hby := Bd.bytes
  have hml : c.maxLocals = 2 := hml0
  have hown : s.vm.findClass "java/util/Objects" = some m.cls := findClass_of_methodNamed Bd.named
  have hnm := (name_of_methodNamed Bd.named Bd.method).1
  have X0 : Stand p l e ({ frames := 0, cells := 0, slots := 0, locals := 0 } : Room) s m #[(.ref o0), (.ref o1)] below meth c s₁ [] 0 0 := Stand.of_body Bd
  have e0 : s₁.heap = h0 := by rw [← hh, Bd.state]; rfl
  have N0 := Fr.nil n0
  have pre0 : ∀ t, Steps p.tables e below (s₁.setTop (mkF m 0 #[.val (.ref o0), .val (.ref o1)] [])) t → Steps p.tables e below (s₁.setTop (entryFrame m #[(.ref o0), (.ref o1)] 2)) t := fun t k => castTop (ef_rm10 m o0 o1) k
  have KC0 : Keep h0 h0 [] := Keep.refl _ _
  obtain ⟨fs, hr, hrun, hended, hW, hsame⟩ := X0.leave (v := some (.ref o0)) (fun h => by rw [Bd.returns] at h; cases h)
  refine ⟨_, _, pre0 _ ?_, hrun, hended, _, _, rfl, ?_, ⟨_, rfl⟩, hW, hsame.mono (by decide) (by decide)⟩
  · show Steps p.tables e below (s₁.setTop (mkF m 0 #[.val (.ref o0), .val (.ref o1)] [])) _
    refine XS.aloadN X0.here hx rfl (hb hby d10_0) rfl rfl ?_
    show Steps p.tables e below (s₁.setTop (mkF m 1 #[.val (.ref o0), .val (.ref o1)] [(.ref o0)])) _
    refine XS.ifnonnullYes X0.here hx rfl (pc0 := 1) (pc' := 13) rfl (hb hby d10_1) rfl (by decide) (by decide) ?_
    show Steps p.tables e below (s₁.setTop (mkF m 13 #[.val (.ref o0), .val (.ref o1)] [])) _
    refine XS.aloadN X0.here hx rfl (hb hby d10_13) rfl rfl ?_
    show Steps p.tables e below (s₁.setTop (mkF m 14 #[.val (.ref o0), .val (.ref o1)] [(.ref o0)])) _
    jvm_step X0.here [X0.here.top, hx, (hb hby d10_14), X0.method', Bd.returns, Value.isRef, FieldType.isReference]
    first | (intro acts; rw [hr _ acts rfl rfl rfl]) | rw [hr _ _ rfl rfl rfl]
    exact Steps.refl _
  · show Qrm10 Z o0 o1 h0 n0 _ s₁.heap _
    rw [e0]
    exact ⟨rfl, N0, rfl⟩
theorem d9_0 : decode jdk_30_method_1_code 0 = .ok (.aload_n 0, 1) := by decide +kernel
theorem d9_1 : decode jdk_30_method_1_code 1 = .ok (.invokespecial 1, 3) := by decide +kernel
theorem d9_4 : decode jdk_30_method_1_code 4 = .ok (.return_, 1) := by decide +kernel
theorem pn_9 : plainName "java/lang/Record" = true := by first | (simp [plainName, overriddenIn]; done) | decide +kernel
theorem ef_rm9 (m : MethodId) (o0 : Addr) : entryFrame m #[(.ref o0)] 1 = mkF m 0 #[.val (.ref o0)] [] := by first | (simp [entryFrame, mkF, argsToLocals, Value.category]; done) | rfl
def Qrm9 (Z : State) (o0 : Addr) (h0 : Heap) (n0 : Nat) (v : Option Value) (h : Heap) (L : List Loc) : Prop := v = none ∧ Fr n0 L ∧ h = h0
set_option maxRecDepth 65536 in
set_option maxHeartbeats 40000000 in
theorem rm9 (l : Launch) (Z : State) (a0 : Array Value) (hw : ∀ d ∈ tables_1, d.before a0 Z = true) (ws : List Jvm.Cond) (o0 : Addr) (h0 : Heap) (n0 : Nat) (Z0 : n0 ≤ h0.size) :
    MetFree l (⟨"java/lang/Record", "<init>", "()V"⟩ : MethodName) (head1 (Jvm.Cond.code (⟨"java/lang/Record", "<init>", "()V"⟩ : MethodName) jdk_30_method_1_code 1 none :: ws) ({ frames := 1, cells := 0, slots := 0, locals := 12 } : Room)) (fun a U => a = #[(.ref o0)] ∧ Z.Warmed39 U.vm ∧ U.heap = h0) (fun _ _ _ _ _ => True) (fun _ U o U' => ∃ v L, o = .returned v ∧ Qrm9 Z o0 h0 n0 v U'.heap L ∧ FrameEnd U o U' L ({ frames := 1, cells := 0, slots := 0, locals := 12 } : Room).cells ({ frames := 1, cells := 0, slots := 0, locals := 12 } : Room).slots) := by
  refine MetFree.of_bodySF (plainFor_of_name pn_9) hisR ?_
  intro p e s m args below meth c s₁ Bd hml0 hP hK
  obtain ⟨rfl, hZ, hh⟩ := hP
  have hx := Bd.exec
  have hby := Bd.bytes
  have hml : c.maxLocals = 1 := hml0
  have hown : s.vm.findClass "java/lang/Record" = some m.cls := findClass_of_methodNamed Bd.named
  have hnm := (name_of_methodNamed Bd.named Bd.method).1
  have X0 : Stand p l e ({ frames := 1, cells := 0, slots := 0, locals := 12 } : Room) s m #[(.ref o0)] below meth c s₁ [] 0 0 := Stand.of_body Bd
  have e0 : s₁.heap = h0 := by rw [← hh, Bd.state]; rfl
  have N0 := Fr.nil n0
  have pre0 : ∀ t, Steps p.tables e below (s₁.setTop (mkF m 0 #[.val (.ref o0)] [])) t → Steps p.tables e below (s₁.setTop (entryFrame m #[(.ref o0)] 1)) t := fun t k => castTop (ef_rm9 m o0) k
  have KC0 : Keep h0 h0 [] := Keep.refl _ _
  obtain ⟨T11, X11, e11, st11⟩ := initO X0 hx hZ hown (hw _ (List.mem_of_getElem? (i := 48) rfl)) (hw _ (List.mem_of_getElem? (i := 19) rfl)) (hw _ (List.mem_of_getElem? (i := 20) rfl)) e0 (g := (mkF m 1 #[.val (.ref o0)] [(.ref o0)])) rfl (by rw [hml]; rfl) rfl (hb hby d9_1) (by decide) (W := 0) (by show 2 * 0 + _ ≤ _; exact Nat.le_of_eq rfl) (by decide)
  obtain ⟨fs, hr, hrun, hended, hW, hsame⟩ := X11.leave (v := none) (fun _ => rfl)
  refine ⟨_, _, pre0 _ ?_, hrun, hended, _, _, rfl, ?_, ⟨_, rfl⟩, hW, hsame.mono (by decide) (by decide)⟩
  · show Steps p.tables e below (s₁.setTop (mkF m 0 #[.val (.ref o0)] [])) _
    refine XS.aloadN X0.here hx rfl (hb hby d9_0) rfl rfl ?_
    show Steps p.tables e below (s₁.setTop (mkF m 1 #[.val (.ref o0)] [(.ref o0)])) _
    refine st11 _ ?_
    show Steps p.tables e below (T11.setTop (mkF m 4 #[.val (.ref o0)] [])) _
    exact X11.returnOut hx Bd.returns (hb hby d9_4) hr
  · show Qrm9 Z o0 h0 n0 _ T11.heap _
    rw [e11]
    exact ⟨rfl, N0, rfl⟩
theorem d8_0 : decode prog_11_method_1_code 0 = .ok (.aload_n 0, 1) := by decide +kernel
theorem d8_1 : decode prog_11_method_1_code 1 = .ok (.invokespecial 1, 3) := by decide +kernel
theorem pd_0 : parseMethodDescriptor "()V" = some ⟨[], none⟩ := by decide +kernel
theorem d8_4 : decode prog_11_method_1_code 4 = .ok (.aload_n 1, 1) := by decide +kernel
theorem d8_5 : decode prog_11_method_1_code 5 = .ok (.ldc 7, 2) := by decide +kernel
theorem own_sa : ∀ d ∈ Bundle.stringAtoms, d ∈ tables_1 := by decide +kernel
theorem d8_7 : decode prog_11_method_1_code 7 = .ok (.invokestatic 9, 3) := by decide +kernel
theorem pd_1 : parseMethodDescriptor "(Ljava/lang/Object;Ljava/lang/String;)Ljava/lang/Object;" = some ⟨[(.object "java/lang/Object"), (.object "java/lang/String")], some (.object "java/lang/Object")⟩ := by decide +kernel
theorem d8_10 : decode prog_11_method_1_code 10 = .ok (.pop, 1) := by decide +kernel
theorem d8_11 : decode prog_11_method_1_code 11 = .ok (.aload_n 3, 1) := by decide +kernel
theorem d8_12 : decode prog_11_method_1_code 12 = .ok (.ldc 15, 2) := by decide +kernel
theorem d8_14 : decode prog_11_method_1_code 14 = .ok (.invokestatic 9, 3) := by decide +kernel
theorem d8_17 : decode prog_11_method_1_code 17 = .ok (.pop, 1) := by decide +kernel
theorem d8_18 : decode prog_11_method_1_code 18 = .ok (.aload 4, 2) := by decide +kernel
theorem d8_20 : decode prog_11_method_1_code 20 = .ok (.ldc 17, 2) := by decide +kernel
theorem d8_22 : decode prog_11_method_1_code 22 = .ok (.invokestatic 9, 3) := by decide +kernel
theorem d8_25 : decode prog_11_method_1_code 25 = .ok (.pop, 1) := by decide +kernel
theorem d8_26 : decode prog_11_method_1_code 26 = .ok (.aload_n 0, 1) := by decide +kernel
theorem d8_27 : decode prog_11_method_1_code 27 = .ok (.aload_n 1, 1) := by decide +kernel
theorem d8_28 : decode prog_11_method_1_code 28 = .ok (.putfield 19, 3) := by decide +kernel
theorem d8_31 : decode prog_11_method_1_code 31 = .ok (.aload_n 0, 1) := by decide +kernel
theorem d8_32 : decode prog_11_method_1_code 32 = .ok (.iload_n 2, 1) := by decide +kernel
theorem d8_33 : decode prog_11_method_1_code 33 = .ok (.putfield 24, 3) := by decide +kernel
theorem d8_36 : decode prog_11_method_1_code 36 = .ok (.aload_n 0, 1) := by decide +kernel
theorem d8_37 : decode prog_11_method_1_code 37 = .ok (.aload_n 3, 1) := by decide +kernel
theorem d8_38 : decode prog_11_method_1_code 38 = .ok (.putfield 28, 3) := by decide +kernel
theorem d8_41 : decode prog_11_method_1_code 41 = .ok (.aload_n 0, 1) := by decide +kernel
theorem d8_42 : decode prog_11_method_1_code 42 = .ok (.aload 4, 2) := by decide +kernel
theorem d8_44 : decode prog_11_method_1_code 44 = .ok (.putfield 31, 3) := by decide +kernel
theorem d8_47 : decode prog_11_method_1_code 47 = .ok (.return_, 1) := by decide +kernel
theorem pn_8 : plainName "com/example/nestor/nestor/core/Occurrence" = true := by first | (simp [plainName, overriddenIn]; done) | decide +kernel
theorem ef_rm8 (m : MethodId) (o0 : Addr) (o1 : Addr) (p2 : Int32) (o3 : Addr) (o4 : Addr) : entryFrame m #[(.ref o0), (.ref o1), (.int p2), (.ref o3), (.ref o4)] 5 = mkF m 0 #[.val (.ref o0), .val (.ref o1), .val (.int p2), .val (.ref o3), .val (.ref o4)] [] := by first | (simp [entryFrame, mkF, argsToLocals, Value.category]; done) | rfl
def Qrm8 (Z : State) (o0 : Addr) (o1 : Addr) (p2 : Int32) (o3 : Addr) (o4 : Addr) (h0 : Heap) (n0 : Nat) (v : Option Value) (h : Heap) (L : List Loc) : Prop := v = none ∧ Fr n0 L ∧ Keep h0 h [o0] ∧ Exa Z h o0 "com/example/nestor/nestor/core/Occurrence" ∧ Fld Z h o0 "com/example/nestor/nestor/core/Occurrence" "line" "I" (.int p2)
set_option maxRecDepth 65536 in
set_option maxHeartbeats 40000000 in
theorem rm8 (l : Launch) (Z : State) (a0 : Array Value) (hw : ∀ d ∈ tables_1, d.before a0 Z = true) (ws : List Jvm.Cond) (o0 : Addr) (o1 : Addr) (p2 : Int32) (o3 : Addr) (o4 : Addr) (h0 : Heap) (n0 : Nat) (Z0 : n0 ≤ h0.size) (H0 : Exa Z h0 o0 "com/example/nestor/nestor/core/Occurrence") (H1 : Fld Z h0 o0 "com/example/nestor/nestor/core/Occurrence" "source" "Ljava/lang/String;" .null) (H2 : Fld Z h0 o0 "com/example/nestor/nestor/core/Occurrence" "line" "I" (.int (0 : Int32))) (H3 : Fld Z h0 o0 "com/example/nestor/nestor/core/Occurrence" "kind" "Lcom/example/nestor/nestor/model/UseKind;" .null) (H4 : Fld Z h0 o0 "com/example/nestor/nestor/core/Occurrence" "detail" "Ljava/lang/String;" .null) (H5 : n0 ≤ o0) :
    MetFree l (⟨"com/example/nestor/nestor/core/Occurrence", "<init>", "(Ljava/lang/String;ILcom/example/nestor/nestor/model/UseKind;Ljava/lang/String;)V"⟩ : MethodName) (head1 (Jvm.Cond.code (⟨"com/example/nestor/nestor/core/Occurrence", "<init>", "(Ljava/lang/String;ILcom/example/nestor/nestor/model/UseKind;Ljava/lang/String;)V"⟩ : MethodName) prog_11_method_1_code 5 none :: ws) ({ frames := 2, cells := 6, slots := 76, locals := 24 } : Room)) (fun a U => a = #[(.ref o0), (.ref o1), (.int p2), (.ref o3), (.ref o4)] ∧ Z.Warmed39 U.vm ∧ U.heap = h0) (fun _ _ _ _ _ => True) (fun _ U o U' => ∃ v L, o = .returned v ∧ Qrm8 Z o0 o1 p2 o3 o4 h0 n0 v U'.heap L ∧ ReturnedEndW U o U' L ({ frames := 2, cells := 6, slots := 76, locals := 24 } : Room).cells ({ frames := 2, cells := 6, slots := 76, locals := 24 } : Room).slots) := by
  refine MetFree.of_bodySF (plainFor_of_name pn_8) hisR ?_
  intro p e s m args below meth c s₁ Bd hml0 hP hK
  obtain ⟨rfl, hZ, hh⟩ := hP
  have hx := Bd.exec
  have hby := Bd.bytes
  have hml : c.maxLocals = 5 := hml0
  have hown : s.vm.findClass "com/example/nestor/nestor/core/Occurrence" = some m.cls := findClass_of_methodNamed Bd.named
  have hnm := (name_of_methodNamed Bd.named Bd.method).1
  have X0 : Stand p l e ({ frames := 2, cells := 6, slots := 76, locals := 24 } : Room) s m #[(.ref o0), (.ref o1), (.int p2), (.ref o3), (.ref o4)] below meth c s₁ [] 0 0 := Stand.of_body Bd
  have e0 : s₁.heap = h0 := by rw [← hh, Bd.state]; rfl
  have N0 := Fr.nil n0
  have pre0 : ∀ t, Steps p.tables e below (s₁.setTop (mkF m 0 #[.val (.ref o0), .val (.ref o1), .val (.int p2), .val (.ref o3), .val (.ref o4)] [])) t → Steps p.tables e below (s₁.setTop (entryFrame m #[(.ref o0), (.ref o1), (.int p2), (.ref o3), (.ref o4)] 5)) t := fun t k => castTop (ef_rm8 m o0 o1 p2 o3 o4) k
  have z12 : @LT.lt Nat _ o0 (Array.size h0) := H0.lt
  have z13 : @LT.lt Nat _ o0 (Array.size h0) := H1.lt
  have z14 : @LT.lt Nat _ o0 (Array.size h0) := H2.lt
  have z15 : @LT.lt Nat _ o0 (Array.size h0) := H3.lt
  have z16 : @LT.lt Nat _ o0 (Array.size h0) := H4.lt
  have KC0 : Keep h0 h0 [o0] := Keep.refl _ _
  have hS0 : s.Since s.vm h0.size := (State.WarmedH.refl s).since _
  obtain ⟨_, _, ⟨T17, L17, k17, n17⟩, -, X17, ⟨Lc17, hQ17, l17, y17, z17⟩, st17⟩ := X0.specialBack hx (y := (⟨"java/lang/Record", "<init>", "()V"⟩ : MethodName)) rfl hown (mvT hZ (hw _ (List.mem_of_getElem? (i := 43) rfl))) (mvT hZ (hw _ (List.mem_of_getElem? (i := 44) rfl))) (mvT hZ (hw _ (List.mem_of_getElem? (i := 47) rfl))) (by decide) (backOf (W := 0) (rm9 l Z a0 hw [] o0 h0 n0 (by omega)) hZ (hw _ (List.mem_of_getElem? (i := 47) rfl)) (hw _ (List.mem_of_getElem? (i := 46) rfl)) (by decide) (by decide)) (g := (mkF m 1 #[.val (.ref o0), .val (.ref o1), .val (.int p2), .val (.ref o3), .val (.ref o4)] [(.ref o0)])) rfl (by rw [hml]; rfl) (Steps.refl _) (a := o0) (argsL := []) (rest := []) (lenOf pd_0 rfl) rfl (by show 2 * 0 + _ ≤ _; exact Nat.le_of_eq rfl) (hb hby d8_1) (fun _ _ => ⟨rfl, e0, (by decide : 0 + 0 ≤ _), (by decide : 0 + 0 ≤ _)⟩)
  dsimp only [Pt.U, Pt.locs, Pt.cells, Pt.slots] at X17 l17 y17 z17 st17 hQ17
  subst l17 y17 z17
  obtain ⟨rfl, N17q, e17⟩ := hQ17
  have N17 := Fr.app N0 N17q
  obtain ⟨a18, T18, h18, k18, X18, e18, E18, hS18, z18k, hZ18, hw18, st18⟩ := ldcS (s := s) (vm0 := s.vm) X17 hx hZ hown (hw _ (List.mem_of_getElem? (i := 49) rfl)) (fun d hd => hw d (own_sa d hd)) e17 hS0 (by omega) (g := (mkF m 5 #[.val (.ref o0), .val (.ref o1), .val (.int p2), .val (.ref o3), .val (.ref o4)] [(.ref o1)])) rfl (hb hby d8_5) (n := 24) (by decide) (by decide) (by decide) (by decide)
  have z19 := E18.1
  have KC20 : Keep h0 h18 [o0] := KC0.ext E18
  obtain ⟨_, _, ⟨T21, L21, k21, n21⟩, -, X21, ⟨Lc21, hQ21, l21, y21, z21⟩, st21⟩ := Jvm.LawKit.callS X18 hx (y := (⟨"java/util/Objects", "requireNonNull", "(Ljava/lang/Object;Ljava/lang/String;)Ljava/lang/Object;"⟩ : MethodName)) hw18 (mvT hZ18 (hw _ (List.mem_of_getElem? (i := 52) rfl))) (mvT hZ18 (hw _ (List.mem_of_getElem? (i := 53) rfl))) (mvT hZ18 (hw _ (List.mem_of_getElem? (i := 54) rfl))) (mvT hZ18 (hw _ (List.mem_of_getElem? (i := 55) rfl))) (by decide) (backOf (W := 0) (rm10 l Z a0 hw [] o1 a18 h18 n0 (by omega)) hZ18 (hw _ (List.mem_of_getElem? (i := 55) rfl)) (hw _ (List.mem_of_getElem? (i := 54) rfl)) (by decide) (by decide)) (g := (mkF m 7 #[.val (.ref o0), .val (.ref o1), .val (.int p2), .val (.ref o3), .val (.ref o4)] [(.ref a18), (.ref o1)])) rfl (by rw [hml]; rfl) (argsL := [(.ref o1), (.ref a18)]) (rest := []) (lenOf pd_1 rfl) rfl (by show 2 * 0 + _ ≤ _; exact Nat.le_of_eq rfl) (hb hby d8_7) (fun _ _ => ⟨rfl, e18, (by decide : 2 + 0 ≤ _), (by decide : 28 + 0 ≤ _)⟩)
  dsimp only [Pt.U, Pt.locs, Pt.cells, Pt.slots] at X21 l21 y21 z21 st21 hQ21
  subst l21 y21 z21
  obtain ⟨rfl, N21q, e21⟩ := hQ21
  have N21 := Fr.app N17 N21q
  obtain ⟨a22, T22, h22, k22, X22, e22, E22, hS22, z22k, hZ22, hw22, st22⟩ := ldcS (s := s) (vm0 := T18.vm) X21 hx hZ18 hw18 (hw _ (List.mem_of_getElem? (i := 56) rfl)) (fun d hd => hw d (own_sa d hd)) e21 hS18 (by omega) (g := (mkF m 12 #[.val (.ref o0), .val (.ref o1), .val (.int p2), .val (.ref o3), .val (.ref o4)] [(.ref o3)])) rfl (hb hby d8_12) (n := 16) (by decide) (by decide) (by decide) (by decide)
  have z23 := E22.1
  have KC24 : Keep h0 h22 [o0] := KC20.ext E22
  obtain ⟨_, _, ⟨T25, L25, k25, n25⟩, -, X25, ⟨Lc25, hQ25, l25, y25, z25⟩, st25⟩ := Jvm.LawKit.callS X22 hx (y := (⟨"java/util/Objects", "requireNonNull", "(Ljava/lang/Object;Ljava/lang/String;)Ljava/lang/Object;"⟩ : MethodName)) hw22 (mvT hZ22 (hw _ (List.mem_of_getElem? (i := 52) rfl))) (mvT hZ22 (hw _ (List.mem_of_getElem? (i := 53) rfl))) (mvT hZ22 (hw _ (List.mem_of_getElem? (i := 54) rfl))) (mvT hZ22 (hw _ (List.mem_of_getElem? (i := 55) rfl))) (by decide) (backOf (W := 0) (rm10 l Z a0 hw [] o3 a22 h22 n0 (by omega)) hZ22 (hw _ (List.mem_of_getElem? (i := 55) rfl)) (hw _ (List.mem_of_getElem? (i := 54) rfl)) (by decide) (by decide)) (g := (mkF m 14 #[.val (.ref o0), .val (.ref o1), .val (.int p2), .val (.ref o3), .val (.ref o4)] [(.ref a22), (.ref o3)])) rfl (by rw [hml]; rfl) (argsL := [(.ref o3), (.ref a22)]) (rest := []) (lenOf pd_1 rfl) rfl (by show 2 * 0 + _ ≤ _; exact Nat.le_of_eq rfl) (hb hby d8_14) (fun _ _ => ⟨rfl, e22, (by decide : 4 + 0 ≤ _), (by decide : 48 + 0 ≤ _)⟩)
  dsimp only [Pt.U, Pt.locs, Pt.cells, Pt.slots] at X25 l25 y25 z25 st25 hQ25
  subst l25 y25 z25
  obtain ⟨rfl, N25q, e25⟩ := hQ25
  have N25 := Fr.app N21 N25q
  obtain ⟨a26, T26, h26, k26, X26, e26, E26, hS26, z26k, hZ26, hw26, st26⟩ := ldcS (s := s) (vm0 := T22.vm) X25 hx hZ22 hw22 (hw _ (List.mem_of_getElem? (i := 57) rfl)) (fun d hd => hw d (own_sa d hd)) e25 hS22 (by omega) (g := (mkF m 20 #[.val (.ref o0), .val (.ref o1), .val (.int p2), .val (.ref o3), .val (.ref o4)] [(.ref o4)])) rfl (hb hby d8_20) (n := 24) (by decide) (by decide) (by decide) (by decide)
  have z27 := E26.1
  have KC28 : Keep h0 h26 [o0] := KC24.ext E26
  obtain ⟨_, _, ⟨T29, L29, k29, n29⟩, -, X29, ⟨Lc29, hQ29, l29, y29, z29⟩, st29⟩ := Jvm.LawKit.callS X26 hx (y := (⟨"java/util/Objects", "requireNonNull", "(Ljava/lang/Object;Ljava/lang/String;)Ljava/lang/Object;"⟩ : MethodName)) hw26 (mvT hZ26 (hw _ (List.mem_of_getElem? (i := 52) rfl))) (mvT hZ26 (hw _ (List.mem_of_getElem? (i := 53) rfl))) (mvT hZ26 (hw _ (List.mem_of_getElem? (i := 54) rfl))) (mvT hZ26 (hw _ (List.mem_of_getElem? (i := 55) rfl))) (by decide) (backOf (W := 0) (rm10 l Z a0 hw [] o4 a26 h26 n0 (by omega)) hZ26 (hw _ (List.mem_of_getElem? (i := 55) rfl)) (hw _ (List.mem_of_getElem? (i := 54) rfl)) (by decide) (by decide)) (g := (mkF m 22 #[.val (.ref o0), .val (.ref o1), .val (.int p2), .val (.ref o3), .val (.ref o4)] [(.ref a26), (.ref o4)])) rfl (by rw [hml]; rfl) (argsL := [(.ref o4), (.ref a26)]) (rest := []) (lenOf pd_1 rfl) rfl (by show 2 * 0 + _ ≤ _; exact Nat.le_of_eq rfl) (hb hby d8_22) (fun _ _ => ⟨rfl, e26, (by decide : 6 + 0 ≤ _), (by decide : 76 + 0 ≤ _)⟩)
  dsimp only [Pt.U, Pt.locs, Pt.cells, Pt.slots] at X29 l29 y29 z29 st29 hQ29
  subst l29 y29 z29
  obtain ⟨rfl, N29q, e29⟩ := hQ29
  have N29 := Fr.app N25 N29q
  have Fc30 := (((H0.ext E18).ext E22).ext E26)
  have Fc31 := (((H1.ext E18).ext E22).ext E26)
  obtain ⟨T32, h32, X32, e32, W32, st32⟩ := putF X29 hx hZ26 hw26 (host := "") (Or.inl (hw _ (List.mem_of_getElem? (i := 58) rfl))) Via.refl e29 Fc31 Fc30 (Or.inr ⟨(hw _ (List.mem_of_getElem? (i := 59) rfl)), rfl, hnm⟩) (hw _ (List.mem_of_getElem? (i := 38) rfl)) (ty := (.object "java/lang/String")) (by decide) rfl rfl (g := (mkF m 28 #[.val (.ref o0), .val (.ref o1), .val (.int p2), .val (.ref o3), .val (.ref o4)] [(.ref o1), (.ref o0)])) rfl rfl (hb hby d8_28)
  have z33 := W32.size
  have N32 := Fr.snoc X32 N29 (by omega : n0 ≤ o0)
  have KC34 : Keep h0 h32 [o0] := KC28.wr W32 (Or.inl (List.mem_of_getElem? (i := 0) rfl))
  have Fw32 := Fc31.same W32
  have Fc35 := (Fc30.wr W32)
  have Fc36 := ((((H2.ext E18).ext E22).ext E26).other W32 (Or.inr (slot_ne (Or.inr (hw _ (List.mem_of_getElem? (i := 61) rfl))) (Or.inr (hw _ (List.mem_of_getElem? (i := 59) rfl))) (by decide) (t := .int) (t' := (.object "java/lang/String")) (by decide) (by decide))))
  obtain ⟨T37, h37, X37, e37, W37, st37⟩ := putF X32 hx hZ26 hw26 (host := "") (Or.inl (hw _ (List.mem_of_getElem? (i := 60) rfl))) Via.refl e32 Fc36 Fc35 (Or.inr ⟨(hw _ (List.mem_of_getElem? (i := 61) rfl)), rfl, hnm⟩) (hw _ (List.mem_of_getElem? (i := 38) rfl)) (ty := .int) (by decide) rfl rfl (g := (mkF m 33 #[.val (.ref o0), .val (.ref o1), .val (.int p2), .val (.ref o3), .val (.ref o4)] [(.int p2), (.ref o0)])) rfl rfl (hb hby d8_33)
  have z38 := W37.size
  have N37 := Fr.snoc X37 N32 (by omega : n0 ≤ o0)
  have KC39 : Keep h0 h37 [o0] := KC34.wr W37 (Or.inl (List.mem_of_getElem? (i := 0) rfl))
  have Fw37 := Fc36.same W37
  have Fc40 := (Fc35.wr W37)
  have Fc41 := (((((H3.ext E18).ext E22).ext E26).other W32 (Or.inr (slot_ne (Or.inr (hw _ (List.mem_of_getElem? (i := 63) rfl))) (Or.inr (hw _ (List.mem_of_getElem? (i := 59) rfl))) (by decide) (t := (.object "com/example/nestor/nestor/model/UseKind")) (t' := (.object "java/lang/String")) (by decide) (by decide)))).other W37 (Or.inr (slot_ne (Or.inr (hw _ (List.mem_of_getElem? (i := 63) rfl))) (Or.inr (hw _ (List.mem_of_getElem? (i := 61) rfl))) (by decide) (t := (.object "com/example/nestor/nestor/model/UseKind")) (t' := .int) (by decide) (by decide))))
  obtain ⟨T42, h42, X42, e42, W42, st42⟩ := putF X37 hx hZ26 hw26 (host := "") (Or.inl (hw _ (List.mem_of_getElem? (i := 62) rfl))) Via.refl e37 Fc41 Fc40 (Or.inr ⟨(hw _ (List.mem_of_getElem? (i := 63) rfl)), rfl, hnm⟩) (hw _ (List.mem_of_getElem? (i := 38) rfl)) (ty := (.object "com/example/nestor/nestor/model/UseKind")) (by decide) rfl rfl (g := (mkF m 38 #[.val (.ref o0), .val (.ref o1), .val (.int p2), .val (.ref o3), .val (.ref o4)] [(.ref o3), (.ref o0)])) rfl rfl (hb hby d8_38)
  have z43 := W42.size
  have N42 := Fr.snoc X42 N37 (by omega : n0 ≤ o0)
  have KC44 : Keep h0 h42 [o0] := KC39.wr W42 (Or.inl (List.mem_of_getElem? (i := 0) rfl))
  have Fw42 := Fc41.same W42
  have Fc45 := (Fc40.wr W42)
  have Fc46 := ((((((H4.ext E18).ext E22).ext E26).other W32 (Or.inr (slot_ne (Or.inr (hw _ (List.mem_of_getElem? (i := 65) rfl))) (Or.inr (hw _ (List.mem_of_getElem? (i := 59) rfl))) (by decide) (t := (.object "java/lang/String")) (t' := (.object "java/lang/String")) (by decide) (by decide)))).other W37 (Or.inr (slot_ne (Or.inr (hw _ (List.mem_of_getElem? (i := 65) rfl))) (Or.inr (hw _ (List.mem_of_getElem? (i := 61) rfl))) (by decide) (t := (.object "java/lang/String")) (t' := .int) (by decide) (by decide)))).other W42 (Or.inr (slot_ne (Or.inr (hw _ (List.mem_of_getElem? (i := 65) rfl))) (Or.inr (hw _ (List.mem_of_getElem? (i := 63) rfl))) (by decide) (t := (.object "java/lang/String")) (t' := (.object "com/example/nestor/nestor/model/UseKind")) (by decide) (by decide))))
  obtain ⟨T47, h47, X47, e47, W47, st47⟩ := putF X42 hx hZ26 hw26 (host := "") (Or.inl (hw _ (List.mem_of_getElem? (i := 64) rfl))) Via.refl e42 Fc46 Fc45 (Or.inr ⟨(hw _ (List.mem_of_getElem? (i := 65) rfl)), rfl, hnm⟩) (hw _ (List.mem_of_getElem? (i := 38) rfl)) (ty := (.object "java/lang/String")) (by decide) rfl rfl (g := (mkF m 44 #[.val (.ref o0), .val (.ref o1), .val (.int p2), .val (.ref o3), .val (.ref o4)] [(.ref o4), (.ref o0)])) rfl rfl (hb hby d8_44)
  have z48 := W47.size
  have N47 := Fr.snoc X47 N42 (by omega : n0 ≤ o0)
  have KC49 : Keep h0 h47 [o0] := KC44.wr W47 (Or.inl (List.mem_of_getElem? (i := 0) rfl))
  have Fw47 := Fc46.same W47
  have z50 := congrArg Array.size e47
  obtain ⟨fs, hr, hrun, hended, rE1, rE2, rE3, rE4⟩ := leaveW (s := s) (vm₁ := T26.vm) X47 hS26 (by omega : k26 ≤ T47.heap.size) (v := none) (fun _ => rfl)
  have Fc51 := (Fc45.wr W47)
  have Fc52 := ((Fw37.other W42 (Or.inr (slot_ne (Or.inr (hw _ (List.mem_of_getElem? (i := 61) rfl))) (Or.inr (hw _ (List.mem_of_getElem? (i := 63) rfl))) (by decide) (t := .int) (t' := (.object "com/example/nestor/nestor/model/UseKind")) (by decide) (by decide)))).other W47 (Or.inr (slot_ne (Or.inr (hw _ (List.mem_of_getElem? (i := 61) rfl))) (Or.inr (hw _ (List.mem_of_getElem? (i := 65) rfl))) (by decide) (t := .int) (t' := (.object "java/lang/String")) (by decide) (by decide))))
  refine ⟨_, _, pre0 _ ?_, hrun, hended, _, _, rfl, ?_, rE1, rE2, rE3, rE4.mono (by decide) (by decide)⟩
  · show Steps p.tables e below (s₁.setTop (mkF m 0 #[.val (.ref o0), .val (.ref o1), .val (.int p2), .val (.ref o3), .val (.ref o4)] [])) _
    refine XS.aloadN X0.here hx rfl (hb hby d8_0) rfl rfl ?_
    show Steps p.tables e below (s₁.setTop (mkF m 1 #[.val (.ref o0), .val (.ref o1), .val (.int p2), .val (.ref o3), .val (.ref o4)] [(.ref o0)])) _
    refine st17.trans ?_
    show Steps p.tables e below (T17.setTop (mkF m 4 #[.val (.ref o0), .val (.ref o1), .val (.int p2), .val (.ref o3), .val (.ref o4)] [])) _
    refine XS.aloadN X17.here hx rfl (hb hby d8_4) rfl rfl ?_
    show Steps p.tables e below (T17.setTop (mkF m 5 #[.val (.ref o0), .val (.ref o1), .val (.int p2), .val (.ref o3), .val (.ref o4)] [(.ref o1)])) _
    refine st18 _ ?_
    show Steps p.tables e below (T18.setTop (mkF m 7 #[.val (.ref o0), .val (.ref o1), .val (.int p2), .val (.ref o3), .val (.ref o4)] [(.ref a18), (.ref o1)])) _
    refine st21 _ ?_
    show Steps p.tables e below (T21.setTop (mkF m 10 #[.val (.ref o0), .val (.ref o1), .val (.int p2), .val (.ref o3), .val (.ref o4)] [(.ref o1)])) _
    refine XS.pop X21.here hx rfl (hb hby d8_10) rfl rfl ?_
    show Steps p.tables e below (T21.setTop (mkF m 11 #[.val (.ref o0), .val (.ref o1), .val (.int p2), .val (.ref o3), .val (.ref o4)] [])) _
    refine XS.aloadN X21.here hx rfl (hb hby d8_11) rfl rfl ?_
    show Steps p.tables e below (T21.setTop (mkF m 12 #[.val (.ref o0), .val (.ref o1), .val (.int p2), .val (.ref o3), .val (.ref o4)] [(.ref o3)])) _
    refine st22 _ ?_
    show Steps p.tables e below (T22.setTop (mkF m 14 #[.val (.ref o0), .val (.ref o1), .val (.int p2), .val (.ref o3), .val (.ref o4)] [(.ref a22), (.ref o3)])) _
    refine st25 _ ?_
    show Steps p.tables e below (T25.setTop (mkF m 17 #[.val (.ref o0), .val (.ref o1), .val (.int p2), .val (.ref o3), .val (.ref o4)] [(.ref o3)])) _
    refine XS.pop X25.here hx rfl (hb hby d8_17) rfl rfl ?_
    show Steps p.tables e below (T25.setTop (mkF m 18 #[.val (.ref o0), .val (.ref o1), .val (.int p2), .val (.ref o3), .val (.ref o4)] [])) _
    refine XS.aload X25.here hx rfl (hb hby d8_18) rfl rfl ?_
    show Steps p.tables e below (T25.setTop (mkF m 20 #[.val (.ref o0), .val (.ref o1), .val (.int p2), .val (.ref o3), .val (.ref o4)] [(.ref o4)])) _
    refine st26 _ ?_
    show Steps p.tables e below (T26.setTop (mkF m 22 #[.val (.ref o0), .val (.ref o1), .val (.int p2), .val (.ref o3), .val (.ref o4)] [(.ref a26), (.ref o4)])) _
    refine st29 _ ?_
    show Steps p.tables e below (T29.setTop (mkF m 25 #[.val (.ref o0), .val (.ref o1), .val (.int p2), .val (.ref o3), .val (.ref o4)] [(.ref o4)])) _
    refine XS.pop X29.here hx rfl (hb hby d8_25) rfl rfl ?_
    show Steps p.tables e below (T29.setTop (mkF m 26 #[.val (.ref o0), .val (.ref o1), .val (.int p2), .val (.ref o3), .val (.ref o4)] [])) _
    refine XS.aloadN X29.here hx rfl (hb hby d8_26) rfl rfl ?_
    show Steps p.tables e below (T29.setTop (mkF m 27 #[.val (.ref o0), .val (.ref o1), .val (.int p2), .val (.ref o3), .val (.ref o4)] [(.ref o0)])) _
    refine XS.aloadN X29.here hx rfl (hb hby d8_27) rfl rfl ?_
    show Steps p.tables e below (T29.setTop (mkF m 28 #[.val (.ref o0), .val (.ref o1), .val (.int p2), .val (.ref o3), .val (.ref o4)] [(.ref o1), (.ref o0)])) _
    refine st32 _ ?_
    show Steps p.tables e below (T32.setTop (mkF m 31 #[.val (.ref o0), .val (.ref o1), .val (.int p2), .val (.ref o3), .val (.ref o4)] [])) _
    refine XS.aloadN X32.here hx rfl (hb hby d8_31) rfl rfl ?_
    show Steps p.tables e below (T32.setTop (mkF m 32 #[.val (.ref o0), .val (.ref o1), .val (.int p2), .val (.ref o3), .val (.ref o4)] [(.ref o0)])) _
    refine XS.iloadN X32.here hx rfl (hb hby d8_32) rfl ?_
    show Steps p.tables e below (T32.setTop (mkF m 33 #[.val (.ref o0), .val (.ref o1), .val (.int p2), .val (.ref o3), .val (.ref o4)] [(.int p2), (.ref o0)])) _
    refine st37 _ ?_
    show Steps p.tables e below (T37.setTop (mkF m 36 #[.val (.ref o0), .val (.ref o1), .val (.int p2), .val (.ref o3), .val (.ref o4)] [])) _
    refine XS.aloadN X37.here hx rfl (hb hby d8_36) rfl rfl ?_
    show Steps p.tables e below (T37.setTop (mkF m 37 #[.val (.ref o0), .val (.ref o1), .val (.int p2), .val (.ref o3), .val (.ref o4)] [(.ref o0)])) _
    refine XS.aloadN X37.here hx rfl (hb hby d8_37) rfl rfl ?_
    show Steps p.tables e below (T37.setTop (mkF m 38 #[.val (.ref o0), .val (.ref o1), .val (.int p2), .val (.ref o3), .val (.ref o4)] [(.ref o3), (.ref o0)])) _
    refine st42 _ ?_
    show Steps p.tables e below (T42.setTop (mkF m 41 #[.val (.ref o0), .val (.ref o1), .val (.int p2), .val (.ref o3), .val (.ref o4)] [])) _
    refine XS.aloadN X42.here hx rfl (hb hby d8_41) rfl rfl ?_
    show Steps p.tables e below (T42.setTop (mkF m 42 #[.val (.ref o0), .val (.ref o1), .val (.int p2), .val (.ref o3), .val (.ref o4)] [(.ref o0)])) _
    refine XS.aload X42.here hx rfl (hb hby d8_42) rfl rfl ?_
    show Steps p.tables e below (T42.setTop (mkF m 44 #[.val (.ref o0), .val (.ref o1), .val (.int p2), .val (.ref o3), .val (.ref o4)] [(.ref o4), (.ref o0)])) _
    refine st47 _ ?_
    show Steps p.tables e below (T47.setTop (mkF m 47 #[.val (.ref o0), .val (.ref o1), .val (.int p2), .val (.ref o3), .val (.ref o4)] [])) _
    exact X47.returnOut hx Bd.returns (hb hby d8_47) hr
  · show Qrm8 Z o0 o1 p2 o3 o4 h0 n0 _ T47.heap _
    rw [e47]
    exact ⟨rfl, N47, KC49, Fc51, Fc52⟩
theorem d11_0 : decode prog_11_method_3_code 0 = .ok (.aload_n 0, 1) := by decide +kernel
theorem d11_1 : decode prog_11_method_3_code 1 = .ok (.getfield 24, 3) := by decide +kernel
theorem d11_4 : decode prog_11_method_3_code 4 = .ok (.iconst (-1), 1) := by decide +kernel
theorem d11_5 : decode prog_11_method_3_code 5 = .ok (.if_icmp .eq 7, 3) := by decide +kernel
theorem d11_12 : decode prog_11_method_3_code 12 = .ok (.iconst 0, 1) := by decide +kernel
theorem d11_13 : decode prog_11_method_3_code 13 = .ok (.ireturn, 1) := by decide +kernel
theorem d11_8 : decode prog_11_method_3_code 8 = .ok (.iconst 1, 1) := by decide +kernel
theorem d11_9 : decode prog_11_method_3_code 9 = .ok (.goto 4, 3) := by decide +kernel
theorem ef_rm11 (m : MethodId) (o0 : Addr) : entryFrame m #[(.ref o0)] 1 = mkF m 0 #[.val (.ref o0)] [] := by first | (simp [entryFrame, mkF, argsToLocals, Value.category]; done) | rfl
def Qrm11 (Z : State) (o0 : Addr) (w : Int32) (h0 : Heap) (n0 : Nat) (v : Option Value) (h : Heap) (L : List Loc) : Prop := v = some (.int (bi (¬ (w = (-1 : Int32))))) ∧ Fr n0 L ∧ h = h0
set_option maxRecDepth 65536 in
set_option maxHeartbeats 40000000 in
theorem rm11 (l : Launch) (Z : State) (a0 : Array Value) (hw : ∀ d ∈ tables_1, d.before a0 Z = true) (ws : List Jvm.Cond) (o0 : Addr) (w : Int32) (h0 : Heap) (n0 : Nat) (Z0 : n0 ≤ h0.size) (H0 : Fld Z h0 o0 "com/example/nestor/nestor/core/Occurrence" "line" "I" (.int w)) :
    MetFree l (⟨"com/example/nestor/nestor/core/Occurrence", "hasLine", "()Z"⟩ : MethodName) (head1 (Jvm.Cond.code (⟨"com/example/nestor/nestor/core/Occurrence", "hasLine", "()Z"⟩ : MethodName) prog_11_method_3_code 1 (some .boolean) :: ws) ({ frames := 0, cells := 0, slots := 0, locals := 0 } : Room)) (fun a U => a = #[(.ref o0)] ∧ Z.Warmed39 U.vm ∧ U.heap = h0) (fun _ _ _ _ _ => True) (fun _ U o U' => ∃ v L, o = .returned v ∧ Qrm11 Z o0 w h0 n0 v U'.heap L ∧ FrameEnd U o U' L ({ frames := 0, cells := 0, slots := 0, locals := 0 } : Room).cells ({ frames := 0, cells := 0, slots := 0, locals := 0 } : Room).slots) := by
  refine MetFree.of_bodySF (plainFor_of_name pn_8) hisR ?_
  intro p e s m args below meth c s₁ Bd hml0 hP hK
  obtain ⟨rfl, hZ, hh⟩ := hP
  have hx := Bd.exec
  have hby := Bd.bytes
  have hml : c.maxLocals = 1 := hml0
  have hown : s.vm.findClass "com/example/nestor/nestor/core/Occurrence" = some m.cls := findClass_of_methodNamed Bd.named
  have hnm := (name_of_methodNamed Bd.named Bd.method).1
  have X0 : Stand p l e ({ frames := 0, cells := 0, slots := 0, locals := 0 } : Room) s m #[(.ref o0)] below meth c s₁ [] 0 0 := Stand.of_body Bd
  have e0 : s₁.heap = h0 := by rw [← hh, Bd.state]; rfl
  have N0 := Fr.nil n0
  have pre0 : ∀ t, Steps p.tables e below (s₁.setTop (mkF m 0 #[.val (.ref o0)] [])) t → Steps p.tables e below (s₁.setTop (entryFrame m #[(.ref o0)] 1)) t := fun t k => castTop (ef_rm11 m o0) k
  have z53 : @LT.lt Nat _ o0 (Array.size h0) := H0.lt
  have KC0 : Keep h0 h0 [] := Keep.refl _ _
  obtain ⟨T54, X54, e54, st54⟩ := getF X0 hx hZ hown (host := "") (Or.inl (hw _ (List.mem_of_getElem? (i := 60) rfl))) Via.refl e0 H0 (g := (mkF m 1 #[.val (.ref o0)] [(.ref o0)])) rfl rfl (hb hby d11_1)
  have pre55 : ∀ t, Steps p.tables e below (T54.setTop (mkF m 5 #[.val (.ref o0)] [(.int (-1 : Int32)), (.int w)])) t → Steps p.tables e below (s₁.setTop (entryFrame m #[(.ref o0)] 1)) t := fun t k => by
    refine pre0 _ ?_
    show Steps p.tables e below (s₁.setTop (mkF m 0 #[.val (.ref o0)] [])) _
    refine XS.aloadN X0.here hx rfl (hb hby d11_0) rfl rfl ?_
    show Steps p.tables e below (s₁.setTop (mkF m 1 #[.val (.ref o0)] [(.ref o0)])) _
    refine st54 _ ?_
    show Steps p.tables e below (T54.setTop (mkF m 4 #[.val (.ref o0)] [(.int w)])) _
    refine XS.iconst X54.here hx rfl (hb hby d11_4) ?_
    exact k
  by_cases hc56 : w = (-1 : Int32)
  · obtain ⟨fs, hr, hrun, hended, hW, hsame⟩ := X54.leave (v := some (.int (0 : Int32))) (fun h => by rw [Bd.returns] at h; cases h)
    refine ⟨_, _, pre55 _ ?_, hrun, hended, _, _, rfl, ?_, ⟨_, rfl⟩, hW, hsame.mono (by decide) (by decide)⟩
    · show Steps p.tables e below (T54.setTop (mkF m 5 #[.val (.ref o0)] [(.int (-1 : Int32)), (.int w)])) _
      refine XS.icmpYes X54.here hx rfl (pc0 := 5) (pc' := 12) rfl (hb hby d11_5) rfl (teq (hc56 : w = (-1 : Int32))).1 (by decide) (by decide) ?_
      show Steps p.tables e below (T54.setTop (mkF m 12 #[.val (.ref o0)] [])) _
      refine XS.iconst X54.here hx rfl (hb hby d11_12) ?_
      show Steps p.tables e below (T54.setTop (mkF m 13 #[.val (.ref o0)] [(.int (0 : Int32))])) _
      exact retN X54 hx (t := .boolean) Bd.returns (by simp) (hb hby d11_13) hr
    · show Qrm11 Z o0 w h0 n0 _ T54.heap _
      rw [e54]
      exact ⟨(by rw [bi_f (not_not_intro hc56)]), N0, rfl⟩
  · obtain ⟨fs, hr, hrun, hended, hW, hsame⟩ := X54.leave (v := some (.int (1 : Int32))) (fun h => by rw [Bd.returns] at h; cases h)
    refine ⟨_, _, pre55 _ ?_, hrun, hended, _, _, rfl, ?_, ⟨_, rfl⟩, hW, hsame.mono (by decide) (by decide)⟩
    · show Steps p.tables e below (T54.setTop (mkF m 5 #[.val (.ref o0)] [(.int (-1 : Int32)), (.int w)])) _
      refine XS.icmpNo X54.here hx rfl (hb hby d11_5) rfl (feq (hc56 : ¬ (w = (-1 : Int32)))).1 ?_
      show Steps p.tables e below (T54.setTop (mkF m 8 #[.val (.ref o0)] [])) _
      refine XS.iconst X54.here hx rfl (hb hby d11_8) ?_
      show Steps p.tables e below (T54.setTop (mkF m 9 #[.val (.ref o0)] [(.int (1 : Int32))])) _
      refine XS.goto X54.here hx rfl (pc0 := 9) (pc' := 13) rfl (hb hby d11_9) (by decide) (by decide) ?_
      show Steps p.tables e below (T54.setTop (mkF m 13 #[.val (.ref o0)] [(.int (1 : Int32))])) _
      exact retN X54 hx (t := .boolean) Bd.returns (by simp) (hb hby d11_13) hr
    · show Qrm11 Z o0 w h0 n0 _ T54.heap _
      rw [e54]
      exact ⟨(by rw [bi_t hc56]), N0, rfl⟩
theorem d12_0 : decode prog_11_method_14_code 0 = .ok (.aload_n 0, 1) := by decide +kernel
theorem d12_1 : decode prog_11_method_14_code 1 = .ok (.getfield 24, 3) := by decide +kernel
theorem d12_4 : decode prog_11_method_14_code 4 = .ok (.ireturn, 1) := by decide +kernel
theorem ef_rm12 (m : MethodId) (o0 : Addr) : entryFrame m #[(.ref o0)] 1 = mkF m 0 #[.val (.ref o0)] [] := by first | (simp [entryFrame, mkF, argsToLocals, Value.category]; done) | rfl
def Qrm12 (Z : State) (o0 : Addr) (w : Int32) (h0 : Heap) (n0 : Nat) (v : Option Value) (h : Heap) (L : List Loc) : Prop := v = some (.int w) ∧ Fr n0 L ∧ h = h0
set_option maxRecDepth 65536 in
set_option maxHeartbeats 40000000 in
theorem rm12 (l : Launch) (Z : State) (a0 : Array Value) (hw : ∀ d ∈ tables_1, d.before a0 Z = true) (ws : List Jvm.Cond) (o0 : Addr) (w : Int32) (h0 : Heap) (n0 : Nat) (Z0 : n0 ≤ h0.size) (H0 : Fld Z h0 o0 "com/example/nestor/nestor/core/Occurrence" "line" "I" (.int w)) :
    MetFree l (⟨"com/example/nestor/nestor/core/Occurrence", "line", "()I"⟩ : MethodName) (head1 (Jvm.Cond.code (⟨"com/example/nestor/nestor/core/Occurrence", "line", "()I"⟩ : MethodName) prog_11_method_14_code 1 (some .int) :: ws) ({ frames := 0, cells := 0, slots := 0, locals := 0 } : Room)) (fun a U => a = #[(.ref o0)] ∧ Z.Warmed39 U.vm ∧ U.heap = h0) (fun _ _ _ _ _ => True) (fun _ U o U' => ∃ v L, o = .returned v ∧ Qrm12 Z o0 w h0 n0 v U'.heap L ∧ FrameEnd U o U' L ({ frames := 0, cells := 0, slots := 0, locals := 0 } : Room).cells ({ frames := 0, cells := 0, slots := 0, locals := 0 } : Room).slots) := by
  refine MetFree.of_bodySF (plainFor_of_name pn_8) hisR ?_
  intro p e s m args below meth c s₁ Bd hml0 hP hK
  obtain ⟨rfl, hZ, hh⟩ := hP
  have hx := Bd.exec
  have hby := Bd.bytes
  have hml : c.maxLocals = 1 := hml0
  have hown : s.vm.findClass "com/example/nestor/nestor/core/Occurrence" = some m.cls := findClass_of_methodNamed Bd.named
  have hnm := (name_of_methodNamed Bd.named Bd.method).1
  have X0 : Stand p l e ({ frames := 0, cells := 0, slots := 0, locals := 0 } : Room) s m #[(.ref o0)] below meth c s₁ [] 0 0 := Stand.of_body Bd
  have e0 : s₁.heap = h0 := by rw [← hh, Bd.state]; rfl
  have N0 := Fr.nil n0
  have pre0 : ∀ t, Steps p.tables e below (s₁.setTop (mkF m 0 #[.val (.ref o0)] [])) t → Steps p.tables e below (s₁.setTop (entryFrame m #[(.ref o0)] 1)) t := fun t k => castTop (ef_rm12 m o0) k
  have z57 : @LT.lt Nat _ o0 (Array.size h0) := H0.lt
  have KC0 : Keep h0 h0 [] := Keep.refl _ _
  obtain ⟨T58, X58, e58, st58⟩ := getF X0 hx hZ hown (host := "") (Or.inl (hw _ (List.mem_of_getElem? (i := 60) rfl))) Via.refl e0 H0 (g := (mkF m 1 #[.val (.ref o0)] [(.ref o0)])) rfl rfl (hb hby d12_1)
  obtain ⟨fs, hr, hrun, hended, hW, hsame⟩ := X58.leave (v := some (.int w)) (fun h => by rw [Bd.returns] at h; cases h)
  refine ⟨_, _, pre0 _ ?_, hrun, hended, _, _, rfl, ?_, ⟨_, rfl⟩, hW, hsame.mono (by decide) (by decide)⟩
  · show Steps p.tables e below (s₁.setTop (mkF m 0 #[.val (.ref o0)] [])) _
    refine XS.aloadN X0.here hx rfl (hb hby d12_0) rfl rfl ?_
    show Steps p.tables e below (s₁.setTop (mkF m 1 #[.val (.ref o0)] [(.ref o0)])) _
    refine st58 _ ?_
    show Steps p.tables e below (T58.setTop (mkF m 4 #[.val (.ref o0)] [(.int w)])) _
    exact retI X58 hx Bd.returns (hb hby d12_4) hr
  · show Qrm12 Z o0 w h0 n0 _ T58.heap _
    rw [e58]
    exact ⟨rfl, N0, rfl⟩
theorem pd_2 : parseMethodDescriptor "(I)Lcom/example/nestor/nestor/model/UseKind;" = some ⟨[.int], some (.object "com/example/nestor/nestor/model/UseKind")⟩ := by decide +kernel
theorem pd_3 : parseMethodDescriptor "([C)V" = some ⟨[(.array .char)], none⟩ := by decide +kernel
theorem pd_4 : parseMethodDescriptor "(Ljava/lang/String;ILcom/example/nestor/nestor/model/UseKind;Ljava/lang/String;)V" = some ⟨[(.object "java/lang/String"), .int, (.object "com/example/nestor/nestor/model/UseKind"), (.object "java/lang/String")], none⟩ := by decide +kernel
theorem pd_5 : parseMethodDescriptor "()Z" = some ⟨[], some .boolean⟩ := by decide +kernel
theorem pd_6 : parseMethodDescriptor "()I" = some ⟨[], some .int⟩ := by decide +kernel
theorem ef_rm0 (m : MethodId) (p0 : Int32) (p1 : Int32) (p2 : Int32) (p3 : Int32) : entryFrame m #[(.int p0), (.int p1), (.int p2), (.int p3)] maxLocals = mkF m 0 #[.val (.int p0), .val (.int p1), .val (.int p2), .val (.int p3), .unset, .unset, .unset, .unset, .unset, .unset, .unset, .unset, .unset] [] := by first | (simp [entryFrame, mkF, argsToLocals, Value.category, maxLocals]; done) | rfl
def Qrm0 (Z : State) (p0 : Int32) (p1 : Int32) (p2 : Int32) (p3 : Int32) (w0 : Addr) (w1 : Addr) (w2 : Addr) (w3 : Addr) (G1 : Int32) (h0 : Heap) (n0 : Nat) (v : Option Value) (h : Heap) (L : List Loc) : Prop := v = some (.int (1 : Int32)) ∧ Fr n0 L ∧ Keep h0 h []
set_option maxRecDepth 65536 in
set_option maxHeartbeats 40000000 in
theorem rm0 (l : Launch) (Z : State) (a0 : Array Value) (hw : ∀ d ∈ tables_1, d.before a0 Z = true) (ws : List Jvm.Cond) (p0 : Int32) (p1 : Int32) (p2 : Int32) (p3 : Int32) (w0 : Addr) (w1 : Addr) (w2 : Addr) (w3 : Addr) (G1 : Int32) (h0 : Heap) (n0 : Nat) (Z0 : n0 ≤ h0.size) (H0 : Sta Z h0 "com/example/nestor/nestor/model/UseKind" "CALL" "Lcom/example/nestor/nestor/model/UseKind;" (.ref w0)) (H1 : Sta Z h0 "com/example/nestor/nestor/model/UseKind" "NEW" "Lcom/example/nestor/nestor/model/UseKind;" (.ref w1)) (H2 : Sta Z h0 "com/example/nestor/nestor/model/UseKind" "FIELD_TYPE" "Lcom/example/nestor/nestor/model/UseKind;" (.ref w2)) (H3 : Sta Z h0 "com/example/nestor/nestor/model/UseKind" "EXTENDS" "Lcom/example/nestor/nestor/model/UseKind;" (.ref w3)) (H4 : Sta Z h0 "java/lang/String" "COMPACT_STRINGS" "Z" (.int G1)) (hG1 : ¬ (G1 = (0 : Int32))) :
    MetFree l x (head1 (Jvm.Cond.code x code maxLocals ret :: ws) room_1) (fun a U => a = #[(.int p0), (.int p1), (.int p2), (.int p3)] ∧ Z.Warmed39 U.vm ∧ U.heap = h0) (fun _ _ _ _ _ => True) (fun _ U o U' => ∃ v L, o = .returned v ∧ Qrm0 Z p0 p1 p2 p3 w0 w1 w2 w3 G1 h0 n0 v U'.heap L ∧ ReturnedEndW U o U' L room_1.cells room_1.slots) := by
  refine MetFree.of_bodySF (plainFor_of_name pn_1) hisR ?_
  intro p e s m args below meth c s₁ Bd hml0 hP hK
  obtain ⟨rfl, hZ, hh⟩ := hP
  have hx := Bd.exec
  have hby := Bd.bytes
  have hml : c.maxLocals = 13 := hml0
  have hown : s.vm.findClass "com/example/nestor/nestor/core/OccurrenceHasLinePinLaw" = some m.cls := findClass_of_methodNamed Bd.named
  have hnm := (name_of_methodNamed Bd.named Bd.method).1
  have X0 : Stand p l e room_1 s m #[(.int p0), (.int p1), (.int p2), (.int p3)] below meth c s₁ [] 0 0 := Stand.of_body Bd
  have e0 : s₁.heap = h0 := by rw [← hh, Bd.state]; rfl
  have N0 := Fr.nil n0
  have pre0 : ∀ t, Steps p.tables e below (s₁.setTop (mkF m 0 #[.val (.int p0), .val (.int p1), .val (.int p2), .val (.int p3), .unset, .unset, .unset, .unset, .unset, .unset, .unset, .unset, .unset] [])) t → Steps p.tables e below (s₁.setTop (entryFrame m #[(.int p0), (.int p1), (.int p2), (.int p3)] maxLocals)) t := fun t k => castTop (ef_rm0 m p0 p1 p2 p3) k
  have KC0 : Keep h0 h0 [] := Keep.refl _ _
  have hS0 : s.Since s.vm h0.size := (State.WarmedH.refl s).since _
  have pre59 : ∀ t, Steps p.tables e below (s₁.setTop (mkF m 7 #[.val (.int p0), .val (.int p1), .val (.int p2), .val (.int p3), .val (.int (p1 &&& (3 : Int32))), .unset, .unset, .unset, .unset, .unset, .unset, .unset, .unset] [(.int (p1 &&& (3 : Int32)))])) t → Steps p.tables e below (s₁.setTop (entryFrame m #[(.int p0), (.int p1), (.int p2), (.int p3)] maxLocals)) t := fun t k => by
    refine pre0 _ ?_
    show Steps p.tables e below (s₁.setTop (mkF m 0 #[.val (.int p0), .val (.int p1), .val (.int p2), .val (.int p3), .unset, .unset, .unset, .unset, .unset, .unset, .unset, .unset, .unset] [])) _
    refine XS.iloadN X0.here hx rfl (hb hby at_0) rfl ?_
    show Steps p.tables e below (s₁.setTop (mkF m 1 #[.val (.int p0), .val (.int p1), .val (.int p2), .val (.int p3), .unset, .unset, .unset, .unset, .unset, .unset, .unset, .unset, .unset] [(.int p1)])) _
    refine XS.iconst X0.here hx rfl (hb hby at_1) ?_
    show Steps p.tables e below (s₁.setTop (mkF m 2 #[.val (.int p0), .val (.int p1), .val (.int p2), .val (.int p3), .unset, .unset, .unset, .unset, .unset, .unset, .unset, .unset, .unset] [(.int (3 : Int32)), (.int p1)])) _
    refine XS.iand X0.here hx rfl (hb hby at_2) rfl ?_
    show Steps p.tables e below (s₁.setTop (mkF m 3 #[.val (.int p0), .val (.int p1), .val (.int p2), .val (.int p3), .unset, .unset, .unset, .unset, .unset, .unset, .unset, .unset, .unset] [(.int (p1 &&& (3 : Int32)))])) _
    refine XS.istore X0.here hx rfl (hb hby at_3) rfl (l' := #[.val (.int p0), .val (.int p1), .val (.int p2), .val (.int p3), .val (.int (p1 &&& (3 : Int32))), .unset, .unset, .unset, .unset, .unset, .unset, .unset, .unset]) rfl ?_
    show Steps p.tables e below (s₁.setTop (mkF m 5 #[.val (.int p0), .val (.int p1), .val (.int p2), .val (.int p3), .val (.int (p1 &&& (3 : Int32))), .unset, .unset, .unset, .unset, .unset, .unset, .unset, .unset] [])) _
    refine XS.iload X0.here hx rfl (hb hby at_5) rfl ?_
    exact k
  by_cases hc60 : (p1 &&& (3 : Int32)) = (0 : Int32)
  · obtain ⟨_, _, ⟨T61, L61, k61, n61⟩, -, X61, ⟨Lc61, hQ61, l61, y61, z61⟩, st61⟩ := Jvm.LawKit.callS X0 hx (y := (⟨"com/example/nestor/nestor/core/OccurrenceHasLinePinLaw", "kindOf", "(I)Lcom/example/nestor/nestor/model/UseKind;"⟩ : MethodName)) hown (mvT hZ (hw _ (List.mem_of_getElem? (i := 0) rfl))) (mvT hZ (hw _ (List.mem_of_getElem? (i := 1) rfl))) (mvT hZ (hw _ (List.mem_of_getElem? (i := 2) rfl))) (mvT hZ (hw _ (List.mem_of_getElem? (i := 3) rfl))) (by decide) (backOf (W := 0) (rm1 l Z a0 hw [] (((p1.toUInt32 >>> ((2 : Int32) &&& 31).toUInt32).toInt32) &&& (3 : Int32)) w0 w1 w2 w3 h0 n0 (by omega) H0 H1 H2 H3) hZ (hw _ (List.mem_of_getElem? (i := 3) rfl)) (hw _ (List.mem_of_getElem? (i := 2) rfl)) (by decide) (by decide)) (g := (mkF m 36 #[.val (.int p0), .val (.int p1), .val (.int p2), .val (.int p3), .val (.int (p1 &&& (3 : Int32))), .val (.int (-1 : Int32)), .unset, .unset, .unset, .unset, .unset, .unset, .unset] [(.int (((p1.toUInt32 >>> ((2 : Int32) &&& 31).toUInt32).toInt32) &&& (3 : Int32)))])) rfl (by rw [hml]; rfl) (argsL := [(.int (((p1.toUInt32 >>> ((2 : Int32) &&& 31).toUInt32).toInt32) &&& (3 : Int32)))]) (rest := []) (lenOf pd_2 rfl) rfl (by show 2 * 0 + _ ≤ _; exact Nat.le_of_eq rfl) (hb hby at_36) (fun _ _ => ⟨rfl, e0, (by decide : 0 + 0 ≤ _), (by decide : 0 + 0 ≤ _)⟩)
    dsimp only [Pt.U, Pt.locs, Pt.cells, Pt.slots] at X61 l61 y61 z61 st61 hQ61
    subst l61 y61 z61
    obtain ⟨r_61, rfl, N61q, e61⟩ := hQ61
    have N61 := Fr.app N0 N61q
    obtain ⟨T62, h62, k62, X62, e62, E62, A62, st62⟩ := newP X61 hx hZ (hw _ (List.mem_of_getElem? (i := 7) rfl)) e61 (g := (mkF m 42 #[.val (.int p0), .val (.int p1), .val (.int p2), .val (.int p3), .val (.int (p1 &&& (3 : Int32))), .val (.int (-1 : Int32)), .val (.ref r_61), .unset, .unset, .unset, .unset, .unset, .unset] [(.int (2 : Int32))])) rfl (hb hby at_42) rfl (by decide) (cap := 2) (by decide) (by decide) (by decide) (by decide)
    obtain ⟨b62, g62⟩ : ∃ z, z = h0.size := ⟨_, rfl⟩
    rw [← g62] at A62 st62
    have z63 := E62.1
    have KC64 : Keep h0 h62 [] := KC0.ext E62
    have V62 : Arv Z h62 b62 k62 .char (2 : Int32) [(.int (0 : Int32)), (.int (0 : Int32))] (.int (0 : Int32)) := (Arv.new A62 (by decide)).pad (pad_rep [] (.int (0 : Int32)) 2)
    have z65 : @LT.lt Nat _ b62 (Array.size h62) := V62.lt
    obtain ⟨cl66, Ar66, q66, S66, N66', H66, G66⟩ := id V62
    have hin66 : ¬ ((0 : Int32) < 0 ∨ cl66.slots.size ≤ ((0 : Int32)).toNatClampNeg) := inb_of S66 ⟨by decide, by decide⟩
    obtain ⟨T67, h67, X67, e67, W67, st67⟩ := stC X62 hx hZ e62 Ar66 (j := (0 : Int32)) hin66 (g := (mkF m 55 #[.val (.int p0), .val (.int p1), .val (.int p2), .val (.int p3), .val (.int (p1 &&& (3 : Int32))), .val (.int (-1 : Int32)), .val (.ref r_61), .val (.ref b62), .unset, .unset, .unset, .unset, .unset] [(.int ((p2 &&& (255 : Int32)).toUInt32.toUInt16.toUInt32.toInt32)), (.int (0 : Int32)), (.ref b62)])) rfl rfl (hb hby at_55)
    have z68 := W67.size
    have N67 := Fr.snoc X67 N61 (by omega : n0 ≤ b62)
    have KC69 : Keep h0 h67 [] := KC64.wr W67 (Or.inr (by omega))
    have V67 : Arv Z h67 b62 k62 .char (2 : Int32) [(.int (nar .char ((p2 &&& (255 : Int32)).toUInt32.toUInt16.toUInt32.toInt32))), (.int (0 : Int32))] (.int (0 : Int32)) := Arv.set Ar66 q66 S66 N66' H66 G66 (fits_nar_char _) W67 0 rfl (Nat.le_of_ble_eq_true rfl)
    obtain ⟨cl70, Ar70, q70, S70, N70', H70, G70⟩ := id V67
    have hin70 : ¬ ((1 : Int32) < 0 ∨ cl70.slots.size ≤ ((1 : Int32)).toNatClampNeg) := inb_of S70 ⟨by decide, by decide⟩
    obtain ⟨T71, h71, X71, e71, W71, st71⟩ := stC X67 hx hZ e67 Ar70 (j := (1 : Int32)) hin70 (g := (mkF m 68 #[.val (.int p0), .val (.int p1), .val (.int p2), .val (.int p3), .val (.int (p1 &&& (3 : Int32))), .val (.int (-1 : Int32)), .val (.ref r_61), .val (.ref b62), .unset, .unset, .unset, .unset, .unset] [(.int ((((p2.toUInt32 >>> ((8 : Int32) &&& 31).toUInt32).toInt32) &&& (255 : Int32)).toUInt32.toUInt16.toUInt32.toInt32)), (.int (1 : Int32)), (.ref b62)])) rfl rfl (hb hby at_68)
    have z72 := W71.size
    have N71 := Fr.snoc X71 N67 (by omega : n0 ≤ b62)
    have KC73 : Keep h0 h71 [] := KC69.wr W71 (Or.inr (by omega))
    have V71 : Arv Z h71 b62 k62 .char (2 : Int32) [(.int (nar .char ((p2 &&& (255 : Int32)).toUInt32.toUInt16.toUInt32.toInt32))), (.int (nar .char ((((p2.toUInt32 >>> ((8 : Int32) &&& 31).toUInt32).toInt32) &&& (255 : Int32)).toUInt32.toUInt16.toUInt32.toInt32)))] (.int (0 : Int32)) := Arv.set Ar70 q70 S70 N70' H70 G70 (fits_nar_char _) W71 1 rfl (Nat.le_of_ble_eq_true rfl)
    obtain ⟨T74, h74, X74, e74, E74, A74, D74, -, st74⟩ := newO X71 hx hZ hown (hw _ (List.mem_of_getElem? (i := 8) rfl)) (hw _ (List.mem_of_getElem? (i := 9) rfl)) (hw _ (List.mem_of_getElem? (i := 10) rfl)) e71 (g := (mkF m 69 #[.val (.int p0), .val (.int p1), .val (.int p2), .val (.int p3), .val (.int (p1 &&& (3 : Int32))), .val (.int (-1 : Int32)), .val (.ref r_61), .val (.ref b62), .unset, .unset, .unset, .unset, .unset] [])) rfl (hb hby at_69) (by decide) (by decide)
    obtain ⟨b74, g74⟩ : ∃ z, z = h71.size := ⟨_, rfl⟩
    rw [← g74] at A74 D74 st74
    have z75 := E74.1
    have KC76 : Keep h0 h74 [] := KC73.ext E74
    have z77 : @LT.lt Nat _ b74 (Array.size h74) := A74.lt
    have F74_coder : Fld Z h74 b74 "java/lang/String" "coder" "B" (.int (0 : Int32)) := D74 (Or.inr (hw _ (List.mem_of_getElem? (i := 34) rfl))) (ty := .byte) (by decide)
    have F74_value : Fld Z h74 b74 "java/lang/String" "value" "[B" .null := D74 (Or.inr (hw _ (List.mem_of_getElem? (i := 36) rfl))) (ty := (.array .byte)) (by decide)
    have Fc79 := (V71.ext E74)
    have Fc80 := ((((H4.ext E62).wr W67).wr W71).ext E74)
    have hp78 : ∀ c ∈ ([(nar .char ((p2 &&& (255 : Int32)).toUInt32.toUInt16.toUInt32.toInt32)), (nar .char ((((p2.toUInt32 >>> ((8 : Int32) &&& 31).toUInt32).toInt32) &&& (255 : Int32)).toUInt32.toUInt16.toUInt32.toInt32))] : List Int32), ¬ c < 0 ∧ ¬ (255 : Int32) < c := by
      intro c hc
      simp only [List.mem_cons, List.not_mem_nil, or_false] at hc
      rcases hc with rfl | rfl
      · exact (own_c255 p2)
      · exact (own_c255 ((p2.toUInt32 >>> ((8 : Int32) &&& 31).toUInt32).toInt32))
    obtain ⟨_, _, ⟨T78, L78, k78, n78⟩, -, X78, ⟨Lc78, hQ78, l78, y78, z78⟩, st78⟩ := X74.specialBack hx (y := (⟨"java/lang/String", "<init>", "([C)V"⟩ : MethodName)) rfl hown (mvT hZ (hw _ (List.mem_of_getElem? (i := 11) rfl))) (mvT hZ (hw _ (List.mem_of_getElem? (i := 12) rfl))) (mvT hZ (hw _ (List.mem_of_getElem? (i := 13) rfl))) (by decide) (StrChars.Road.backV (W := 1) hZ (fun d hd => hw d (own_words d hd)) (kI := 4) (hw _ (List.mem_of_getElem? (i := 9) rfl)) (cs := ([(nar .char ((p2 &&& (255 : Int32)).toUInt32.toUInt16.toUInt32.toInt32)), (nar .char ((((p2.toUInt32 >>> ((8 : Int32) &&& 31).toUInt32).toInt32) &&& (255 : Int32)).toUInt32.toUInt16.toUInt32.toInt32))] : List Int32)) (bs := (([(nar .char ((p2 &&& (255 : Int32)).toUInt32.toUInt16.toUInt32.toInt32)), (nar .char ((((p2.toUInt32 >>> ((8 : Int32) &&& 31).toUInt32).toInt32) &&& (255 : Int32)).toUInt32.toUInt16.toUInt32.toInt32))] : List Int32)).map (fun c => c.toInt8.toInt32)) (n := 2) (by omega : n0 ≤ b74) (by omega : n0 ≤ h74.size) A74 F74_value F74_coder Fc79 Fc80 hG1 rfl rfl (by decide) (by decide) hp78 rfl (by decide) (by decide)) (g := (mkF m 75 #[.val (.int p0), .val (.int p1), .val (.int p2), .val (.int p3), .val (.int (p1 &&& (3 : Int32))), .val (.int (-1 : Int32)), .val (.ref r_61), .val (.ref b62), .unset, .unset, .unset, .unset, .unset] [(.ref b62), (.ref b74), (.ref b74)])) rfl (by rw [hml]; rfl) (Steps.refl _) (a := b74) (argsL := [(.ref b62)]) (rest := [(.ref b74)]) (lenOf pd_3 rfl) rfl (by show 2 * 0 + _ ≤ _; exact Nat.le_of_eq rfl) (hb hby at_75) (fun _ _ => ⟨rfl, e74, (by decide : 2 + 1 ≤ _), (by decide : 6 + 2 ≤ _)⟩)
    dsimp only [Pt.U, Pt.locs, Pt.cells, Pt.slots] at X78 l78 y78 z78 st78 hQ78
    subst l78 y78 z78
    obtain ⟨rfl, N78q, K78, P78E, P78C, bv78, kb78, u78a, u78b, u78c, P78V, P78A⟩ := hQ78
    have N78 := Fr.app N71 N78q
    have z81 := K78.1
    have KC82 : Keep h0 T78.heap [] := KC76.trans K78 (allS (Or.inr (by omega)) all0)
    have P78B : Arv Z T78.heap bv78 kb78 .byte (2 : Int32) [(.int ((nar .char ((p2 &&& (255 : Int32)).toUInt32.toUInt16.toUInt32.toInt32))).toInt8.toInt32), (.int ((nar .char ((((p2.toUInt32 >>> ((8 : Int32) &&& 31).toUInt32).toInt32) &&& (255 : Int32)).toUInt32.toUInt16.toUInt32.toInt32))).toInt8.toInt32)] (.int (0 : Int32)) := P78A
    have z83 : @LT.lt Nat _ b74 (Array.size T78.heap) := P78E.lt
    have z84 : @LT.lt Nat _ bv78 (Array.size T78.heap) := P78A.lt
    obtain ⟨T85, h85, k85, X85, e85, E85, A85, st85⟩ := newP X78 hx hZ (hw _ (List.mem_of_getElem? (i := 7) rfl)) rfl (g := (mkF m 81 #[.val (.int p0), .val (.int p1), .val (.int p2), .val (.int p3), .val (.int (p1 &&& (3 : Int32))), .val (.int (-1 : Int32)), .val (.ref r_61), .val (.ref b62), .val (.ref b74), .unset, .unset, .unset, .unset] [(.int (1 : Int32))])) rfl (hb hby at_81) rfl (by decide) (cap := 1) (by decide) (by decide) (by decide) (by decide)
    obtain ⟨b85, g85⟩ : ∃ z, z = T78.heap.size := ⟨_, rfl⟩
    rw [← g85] at A85 st85
    have z86 := E85.1
    have KC87 : Keep h0 h85 [] := KC82.ext E85
    have V85 : Arv Z h85 b85 k85 .char (1 : Int32) [(.int (0 : Int32))] (.int (0 : Int32)) := (Arv.new A85 (by decide)).pad (pad_rep [] (.int (0 : Int32)) 1)
    have z88 : @LT.lt Nat _ b85 (Array.size h85) := V85.lt
    obtain ⟨cl89, Ar89, q89, S89, N89', H89, G89⟩ := id V85
    have hin89 : ¬ ((0 : Int32) < 0 ∨ cl89.slots.size ≤ ((0 : Int32)).toNatClampNeg) := inb_of S89 ⟨by decide, by decide⟩
    obtain ⟨T90, h90, X90, e90, W90, st90⟩ := stC X85 hx hZ e85 Ar89 (j := (0 : Int32)) hin89 (g := (mkF m 94 #[.val (.int p0), .val (.int p1), .val (.int p2), .val (.int p3), .val (.int (p1 &&& (3 : Int32))), .val (.int (-1 : Int32)), .val (.ref r_61), .val (.ref b62), .val (.ref b74), .val (.ref b85), .unset, .unset, .unset] [(.int ((p3 &&& (255 : Int32)).toUInt32.toUInt16.toUInt32.toInt32)), (.int (0 : Int32)), (.ref b85)])) rfl rfl (hb hby at_94)
    have z91 := W90.size
    have N90 := Fr.snoc X90 N78 (by omega : n0 ≤ b85)
    have KC92 : Keep h0 h90 [] := KC87.wr W90 (Or.inr (by omega))
    have V90 : Arv Z h90 b85 k85 .char (1 : Int32) [(.int (nar .char ((p3 &&& (255 : Int32)).toUInt32.toUInt16.toUInt32.toInt32)))] (.int (0 : Int32)) := Arv.set Ar89 q89 S89 N89' H89 G89 (fits_nar_char _) W90 0 rfl (Nat.le_of_ble_eq_true rfl)
    obtain ⟨T93, h93, X93, e93, E93, A93, D93, -, st93⟩ := newO X90 hx hZ hown (hw _ (List.mem_of_getElem? (i := 8) rfl)) (hw _ (List.mem_of_getElem? (i := 9) rfl)) (hw _ (List.mem_of_getElem? (i := 10) rfl)) e90 (g := (mkF m 95 #[.val (.int p0), .val (.int p1), .val (.int p2), .val (.int p3), .val (.int (p1 &&& (3 : Int32))), .val (.int (-1 : Int32)), .val (.ref r_61), .val (.ref b62), .val (.ref b74), .val (.ref b85), .unset, .unset, .unset] [])) rfl (hb hby at_95) (by decide) (by decide)
    obtain ⟨b93, g93⟩ : ∃ z, z = h90.size := ⟨_, rfl⟩
    rw [← g93] at A93 D93 st93
    have z94 := E93.1
    have KC95 : Keep h0 h93 [] := KC92.ext E93
    have z96 : @LT.lt Nat _ b93 (Array.size h93) := A93.lt
    have F93_coder : Fld Z h93 b93 "java/lang/String" "coder" "B" (.int (0 : Int32)) := D93 (Or.inr (hw _ (List.mem_of_getElem? (i := 34) rfl))) (ty := .byte) (by decide)
    have F93_value : Fld Z h93 b93 "java/lang/String" "value" "[B" .null := D93 (Or.inr (hw _ (List.mem_of_getElem? (i := 36) rfl))) (ty := (.array .byte)) (by decide)
    have Fc98 := (V90.ext E93)
    have Fc99 := ((((own_staK Fc80 K78 (allS ⟨_, A74⟩ all0)).ext E85).wr W90).ext E93)
    have hp97 : ∀ c ∈ ([(nar .char ((p3 &&& (255 : Int32)).toUInt32.toUInt16.toUInt32.toInt32))] : List Int32), ¬ c < 0 ∧ ¬ (255 : Int32) < c := by
      intro c hc
      simp only [List.mem_cons, List.not_mem_nil, or_false] at hc
      subst hc
      exact (own_c255 p3)
    obtain ⟨_, _, ⟨T97, L97, k97, n97⟩, -, X97, ⟨Lc97, hQ97, l97, y97, z97⟩, st97⟩ := X93.specialBack hx (y := (⟨"java/lang/String", "<init>", "([C)V"⟩ : MethodName)) rfl hown (mvT hZ (hw _ (List.mem_of_getElem? (i := 11) rfl))) (mvT hZ (hw _ (List.mem_of_getElem? (i := 12) rfl))) (mvT hZ (hw _ (List.mem_of_getElem? (i := 13) rfl))) (by decide) (StrChars.Road.backV (W := 1) hZ (fun d hd => hw d (own_words d hd)) (kI := 4) (hw _ (List.mem_of_getElem? (i := 9) rfl)) (cs := ([(nar .char ((p3 &&& (255 : Int32)).toUInt32.toUInt16.toUInt32.toInt32))] : List Int32)) (bs := (([(nar .char ((p3 &&& (255 : Int32)).toUInt32.toUInt16.toUInt32.toInt32))] : List Int32)).map (fun c => c.toInt8.toInt32)) (n := 1) (by omega : n0 ≤ b93) (by omega : n0 ≤ h93.size) A93 F93_value F93_coder Fc98 Fc99 hG1 rfl rfl (by decide) (by decide) hp97 rfl (by decide) (by decide)) (g := (mkF m 101 #[.val (.int p0), .val (.int p1), .val (.int p2), .val (.int p3), .val (.int (p1 &&& (3 : Int32))), .val (.int (-1 : Int32)), .val (.ref r_61), .val (.ref b62), .val (.ref b74), .val (.ref b85), .unset, .unset, .unset] [(.ref b85), (.ref b93), (.ref b93)])) rfl (by rw [hml]; rfl) (Steps.refl _) (a := b93) (argsL := [(.ref b85)]) (rest := [(.ref b93)]) (lenOf pd_3 rfl) rfl (by show 2 * 0 + _ ≤ _; exact Nat.le_of_eq rfl) (hb hby at_101) (fun _ _ => ⟨rfl, e93, (by decide : 5 + 1 ≤ _), (by decide : 13 + 1 ≤ _)⟩)
    dsimp only [Pt.U, Pt.locs, Pt.cells, Pt.slots] at X97 l97 y97 z97 st97 hQ97
    subst l97 y97 z97
    obtain ⟨rfl, N97q, K97, P97E, P97C, bv97, kb97, u97a, u97b, u97c, P97V, P97A⟩ := hQ97
    have N97 := Fr.app N90 N97q
    have z100 := K97.1
    have KC101 : Keep h0 T97.heap [] := KC95.trans K97 (allS (Or.inr (by omega)) all0)
    have P97B : Arv Z T97.heap bv97 kb97 .byte (1 : Int32) [(.int ((nar .char ((p3 &&& (255 : Int32)).toUInt32.toUInt16.toUInt32.toInt32))).toInt8.toInt32)] (.int (0 : Int32)) := P97A
    have z102 : @LT.lt Nat _ b93 (Array.size T97.heap) := P97E.lt
    have z103 : @LT.lt Nat _ bv97 (Array.size T97.heap) := P97A.lt
    obtain ⟨T104, h104, X104, e104, E104, A104, D104, -, st104⟩ := newO X97 hx hZ hown (hw _ (List.mem_of_getElem? (i := 37) rfl)) (hw _ (List.mem_of_getElem? (i := 38) rfl)) (hw _ (List.mem_of_getElem? (i := 39) rfl)) rfl (g := (mkF m 106 #[.val (.int p0), .val (.int p1), .val (.int p2), .val (.int p3), .val (.int (p1 &&& (3 : Int32))), .val (.int (-1 : Int32)), .val (.ref r_61), .val (.ref b62), .val (.ref b74), .val (.ref b85), .val (.ref b93), .unset, .unset] [])) rfl (hb hby at_106) (by decide) (by decide)
    obtain ⟨b104, g104⟩ : ∃ z, z = T97.heap.size := ⟨_, rfl⟩
    rw [← g104] at A104 D104 st104
    have z105 := E104.1
    have KC106 : Keep h0 h104 [] := KC101.ext E104
    have z107 : @LT.lt Nat _ b104 (Array.size h104) := A104.lt
    have F104_source : Fld Z h104 b104 "com/example/nestor/nestor/core/Occurrence" "source" "Ljava/lang/String;" .null := D104 (Or.inr (hw _ (List.mem_of_getElem? (i := 59) rfl))) (ty := (.object "java/lang/String")) (by decide)
    have F104_line : Fld Z h104 b104 "com/example/nestor/nestor/core/Occurrence" "line" "I" (.int (0 : Int32)) := D104 (Or.inr (hw _ (List.mem_of_getElem? (i := 61) rfl))) (ty := .int) (by decide)
    have F104_kind : Fld Z h104 b104 "com/example/nestor/nestor/core/Occurrence" "kind" "Lcom/example/nestor/nestor/model/UseKind;" .null := D104 (Or.inr (hw _ (List.mem_of_getElem? (i := 63) rfl))) (ty := (.object "com/example/nestor/nestor/model/UseKind")) (by decide)
    have F104_detail : Fld Z h104 b104 "com/example/nestor/nestor/core/Occurrence" "detail" "Ljava/lang/String;" .null := D104 (Or.inr (hw _ (List.mem_of_getElem? (i := 65) rfl))) (ty := (.object "java/lang/String")) (by decide)
    have z109 := congrArg Array.size e104
    obtain ⟨_, _, ⟨T108, L108, k108, n108⟩, -, Y108, hY108, gY108, ⟨Lc108, hQ108, l108, y108, z108⟩, st108⟩ := X104.specialBackS hx (y := (⟨"com/example/nestor/nestor/core/Occurrence", "<init>", "(Ljava/lang/String;ILcom/example/nestor/nestor/model/UseKind;Ljava/lang/String;)V"⟩ : MethodName)) rfl hown (mvT hZ (hw _ (List.mem_of_getElem? (i := 40) rfl))) (mvT hZ (hw _ (List.mem_of_getElem? (i := 41) rfl))) (mvT hZ (hw _ (List.mem_of_getElem? (i := 42) rfl))) (by decide) (backOfS (W := 1) (rm8 l Z a0 hw [] b104 b74 (-1 : Int32) r_61 b93 h104 n0 (by omega) A104 F104_source F104_line F104_kind F104_detail (by omega : n0 ≤ b104)) hZ (hw _ (List.mem_of_getElem? (i := 42) rfl)) (hw _ (List.mem_of_getElem? (i := 39) rfl)) (by decide) (by decide)) (g := (mkF m 118 #[.val (.int p0), .val (.int p1), .val (.int p2), .val (.int p3), .val (.int (p1 &&& (3 : Int32))), .val (.int (-1 : Int32)), .val (.ref r_61), .val (.ref b62), .val (.ref b74), .val (.ref b85), .val (.ref b93), .unset, .unset] [(.ref b93), (.ref r_61), (.int (-1 : Int32)), (.ref b74), (.ref b104), (.ref b104)])) rfl (by rw [hml]; rfl) (Steps.refl _) (a := b104) (argsL := [(.ref b74), (.int (-1 : Int32)), (.ref r_61), (.ref b93)]) (rest := [(.ref b104)]) (lenOf pd_4 rfl) rfl (by show 2 * 0 + _ ≤ _; exact Nat.le_of_eq rfl) (hb hby at_118) (fun _ _ => ⟨rfl, e104, (by decide : 7 + 6 ≤ _), (by decide : 18 + 76 ≤ _)⟩)
    dsimp only [Pt.U, Pt.locs, Pt.cells, Pt.slots] at Y108 hY108 gY108 l108 y108 z108 st108 hQ108
    subst l108 y108 z108
    obtain ⟨X108, hS108, hZ108, hw108⟩ := rebS (s := s) (vm0 := s.vm) hS0 (by omega : h0.size ≤ T104.heap.size) Y108 hY108 gY108 hZ hown
    obtain ⟨rfl, N108q, K108, P108_0, P108_1⟩ := hQ108
    have N108 := Fr.app N97 N108q
    have z110 := K108.1
    have KC111 : Keep h0 T108.heap [] := KC106.trans K108 (allS (Or.inr (by omega)) all0)
    have z112 : @LT.lt Nat _ b104 (Array.size T108.heap) := P108_0.lt
    have z113 : @LT.lt Nat _ b104 (Array.size T108.heap) := P108_1.lt
    obtain ⟨cq114, kq114, qa114, qb114, qc114⟩ := isOf hZ108 rfl P108_0
    obtain ⟨_, _, ⟨T114, L114, k114, n114⟩, -, X114, ⟨Lc114, hQ114, l114, y114, z114⟩, st114⟩ := X108.virtualBack hx (y := (⟨"com/example/nestor/nestor/core/Occurrence", "hasLine", "()Z"⟩ : MethodName)) (z := (⟨"com/example/nestor/nestor/core/Occurrence", "hasLine", "()Z"⟩ : MethodName)) hw108 (mvT hZ108 (hw _ (List.mem_of_getElem? (i := 66) rfl))) (mvT hZ108 (hw _ (List.mem_of_getElem? (i := 67) rfl))) (notFace_of_selects (args := #[]) (mvT hZ108 (hw _ (List.mem_of_getElem? (i := 69) rfl)))) (mvT hZ108 (hw _ (List.mem_of_getElem? (i := 69) rfl))) (mvT hZ108 (hw _ (List.mem_of_getElem? (i := 68) rfl))) (by decide) (backOf (W := 0) (rm11 l Z a0 hw [] b104 (-1 : Int32) T108.heap n0 (by omega) P108_1) hZ108 (hw _ (List.mem_of_getElem? (i := 70) rfl)) (hw _ (List.mem_of_getElem? (i := 39) rfl)) (by decide) (by decide)) qa114 qc114 (g := (mkF m 144 #[.val (.int p0), .val (.int p1), .val (.int p2), .val (.int p3), .val (.int (p1 &&& (3 : Int32))), .val (.int (-1 : Int32)), .val (.ref r_61), .val (.ref b62), .val (.ref b74), .val (.ref b85), .val (.ref b93), .val (.ref b104), .val (.int (0 : Int32))] [(.ref b104)])) rfl (by rw [hml]; rfl) (Steps.refl _) (argsL := []) (rest := []) (lenOf pd_5 rfl) rfl (by show 2 * 0 + _ ≤ _; exact Nat.le_of_eq rfl) (hb hby at_144) (fun _ _ => ⟨rfl, rfl, (by decide : 13 + 0 ≤ _), (by decide : 94 + 0 ≤ _)⟩)
    dsimp only [Pt.U, Pt.locs, Pt.cells, Pt.slots] at X114 l114 y114 z114 st114 hQ114
    subst l114 y114 z114
    obtain ⟨rfl, N114q, e114⟩ := hQ114
    have N114 := Fr.app N108 N114q
    obtain ⟨cq115, kq115, qa115, qb115, qc115⟩ := isOf hZ108 e114 P108_0
    obtain ⟨_, _, ⟨T115, L115, k115, n115⟩, -, X115, ⟨Lc115, hQ115, l115, y115, z115⟩, st115⟩ := X114.virtualBack hx (y := (⟨"com/example/nestor/nestor/core/Occurrence", "line", "()I"⟩ : MethodName)) (z := (⟨"com/example/nestor/nestor/core/Occurrence", "line", "()I"⟩ : MethodName)) hw108 (mvT hZ108 (hw _ (List.mem_of_getElem? (i := 71) rfl))) (mvT hZ108 (hw _ (List.mem_of_getElem? (i := 72) rfl))) (notFace_of_selects (args := #[]) (mvT hZ108 (hw _ (List.mem_of_getElem? (i := 74) rfl)))) (mvT hZ108 (hw _ (List.mem_of_getElem? (i := 74) rfl))) (mvT hZ108 (hw _ (List.mem_of_getElem? (i := 73) rfl))) (by decide) (backOf (W := 0) (rm12 l Z a0 hw [] b104 (-1 : Int32) T108.heap n0 (by omega) P108_1) hZ108 (hw _ (List.mem_of_getElem? (i := 75) rfl)) (hw _ (List.mem_of_getElem? (i := 39) rfl)) (by decide) (by decide)) qa115 qc115 (g := (mkF m 154 #[.val (.int p0), .val (.int p1), .val (.int p2), .val (.int p3), .val (.int (p1 &&& (3 : Int32))), .val (.int (-1 : Int32)), .val (.ref r_61), .val (.ref b62), .val (.ref b74), .val (.ref b85), .val (.ref b93), .val (.ref b104), .val (.int (0 : Int32))] [(.ref b104)])) rfl (by rw [hml]; rfl) (Steps.refl _) (argsL := []) (rest := []) (lenOf pd_6 rfl) rfl (by show 2 * 0 + _ ≤ _; exact Nat.le_of_eq rfl) (hb hby at_154) (fun _ _ => ⟨rfl, e114, (by decide : 13 + 0 ≤ _), (by decide : 94 + 0 ≤ _)⟩)
    dsimp only [Pt.U, Pt.locs, Pt.cells, Pt.slots] at X115 l115 y115 z115 st115 hQ115
    subst l115 y115 z115
    obtain ⟨rfl, N115q, e115⟩ := hQ115
    have N115 := Fr.app N114 N115q
    have z116 := congrArg Array.size e115
    obtain ⟨fs, hr, hrun, hended, rE1, rE2, rE3, rE4⟩ := leaveW (s := s) (vm₁ := T108.vm) X115 hS108 (by omega : T108.heap.size ≤ T115.heap.size) (v := some (.int (1 : Int32))) (fun h => by rw [Bd.returns] at h; cases h)
    refine ⟨_, _, pre59 _ ?_, hrun, hended, _, _, rfl, ?_, rE1, rE2, rE3, rE4.mono (by decide) (by decide)⟩
    · show Steps p.tables e below (s₁.setTop (mkF m 7 #[.val (.int p0), .val (.int p1), .val (.int p2), .val (.int p3), .val (.int (p1 &&& (3 : Int32))), .unset, .unset, .unset, .unset, .unset, .unset, .unset, .unset] [(.int (p1 &&& (3 : Int32)))])) _
      refine XS.ifNo X0.here hx rfl (hb hby at_7) rfl ((if0 _ _).trans (teq (hc60 : (p1 &&& (3 : Int32)) = (0 : Int32))).2) ?_
      show Steps p.tables e below (s₁.setTop (mkF m 10 #[.val (.int p0), .val (.int p1), .val (.int p2), .val (.int p3), .val (.int (p1 &&& (3 : Int32))), .unset, .unset, .unset, .unset, .unset, .unset, .unset, .unset] [])) _
      refine XS.iconst X0.here hx rfl (hb hby at_10) ?_
      show Steps p.tables e below (s₁.setTop (mkF m 11 #[.val (.int p0), .val (.int p1), .val (.int p2), .val (.int p3), .val (.int (p1 &&& (3 : Int32))), .unset, .unset, .unset, .unset, .unset, .unset, .unset, .unset] [(.int (-1 : Int32))])) _
      refine XS.istore X0.here hx rfl (hb hby at_11) rfl (l' := #[.val (.int p0), .val (.int p1), .val (.int p2), .val (.int p3), .val (.int (p1 &&& (3 : Int32))), .val (.int (-1 : Int32)), .unset, .unset, .unset, .unset, .unset, .unset, .unset]) rfl ?_
      show Steps p.tables e below (s₁.setTop (mkF m 13 #[.val (.int p0), .val (.int p1), .val (.int p2), .val (.int p3), .val (.int (p1 &&& (3 : Int32))), .val (.int (-1 : Int32)), .unset, .unset, .unset, .unset, .unset, .unset, .unset] [])) _
      refine XS.goto X0.here hx rfl (pc0 := 13) (pc' := 31) rfl (hb hby at_13) (by decide) (by decide) ?_
      show Steps p.tables e below (s₁.setTop (mkF m 31 #[.val (.int p0), .val (.int p1), .val (.int p2), .val (.int p3), .val (.int (p1 &&& (3 : Int32))), .val (.int (-1 : Int32)), .unset, .unset, .unset, .unset, .unset, .unset, .unset] [])) _
      refine XS.iloadN X0.here hx rfl (hb hby at_31) rfl ?_
      show Steps p.tables e below (s₁.setTop (mkF m 32 #[.val (.int p0), .val (.int p1), .val (.int p2), .val (.int p3), .val (.int (p1 &&& (3 : Int32))), .val (.int (-1 : Int32)), .unset, .unset, .unset, .unset, .unset, .unset, .unset] [(.int p1)])) _
      refine XS.iconst X0.here hx rfl (hb hby at_32) ?_
      show Steps p.tables e below (s₁.setTop (mkF m 33 #[.val (.int p0), .val (.int p1), .val (.int p2), .val (.int p3), .val (.int (p1 &&& (3 : Int32))), .val (.int (-1 : Int32)), .unset, .unset, .unset, .unset, .unset, .unset, .unset] [(.int (2 : Int32)), (.int p1)])) _
      refine XS.iushr X0.here hx rfl (hb hby at_33) rfl ?_
      show Steps p.tables e below (s₁.setTop (mkF m 34 #[.val (.int p0), .val (.int p1), .val (.int p2), .val (.int p3), .val (.int (p1 &&& (3 : Int32))), .val (.int (-1 : Int32)), .unset, .unset, .unset, .unset, .unset, .unset, .unset] [(.int ((p1.toUInt32 >>> ((2 : Int32) &&& 31).toUInt32).toInt32))])) _
      refine XS.iconst X0.here hx rfl (hb hby at_34) ?_
      show Steps p.tables e below (s₁.setTop (mkF m 35 #[.val (.int p0), .val (.int p1), .val (.int p2), .val (.int p3), .val (.int (p1 &&& (3 : Int32))), .val (.int (-1 : Int32)), .unset, .unset, .unset, .unset, .unset, .unset, .unset] [(.int (3 : Int32)), (.int ((p1.toUInt32 >>> ((2 : Int32) &&& 31).toUInt32).toInt32))])) _
      refine XS.iand X0.here hx rfl (hb hby at_35) rfl ?_
      show Steps p.tables e below (s₁.setTop (mkF m 36 #[.val (.int p0), .val (.int p1), .val (.int p2), .val (.int p3), .val (.int (p1 &&& (3 : Int32))), .val (.int (-1 : Int32)), .unset, .unset, .unset, .unset, .unset, .unset, .unset] [(.int (((p1.toUInt32 >>> ((2 : Int32) &&& 31).toUInt32).toInt32) &&& (3 : Int32)))])) _
      refine st61 _ ?_
      show Steps p.tables e below (T61.setTop (mkF m 39 #[.val (.int p0), .val (.int p1), .val (.int p2), .val (.int p3), .val (.int (p1 &&& (3 : Int32))), .val (.int (-1 : Int32)), .unset, .unset, .unset, .unset, .unset, .unset, .unset] [(.ref r_61)])) _
      refine XS.astore X61.here hx rfl (hb hby at_39) rfl rfl (l' := #[.val (.int p0), .val (.int p1), .val (.int p2), .val (.int p3), .val (.int (p1 &&& (3 : Int32))), .val (.int (-1 : Int32)), .val (.ref r_61), .unset, .unset, .unset, .unset, .unset, .unset]) rfl ?_
      show Steps p.tables e below (T61.setTop (mkF m 41 #[.val (.int p0), .val (.int p1), .val (.int p2), .val (.int p3), .val (.int (p1 &&& (3 : Int32))), .val (.int (-1 : Int32)), .val (.ref r_61), .unset, .unset, .unset, .unset, .unset, .unset] [])) _
      refine XS.iconst X61.here hx rfl (hb hby at_41) ?_
      show Steps p.tables e below (T61.setTop (mkF m 42 #[.val (.int p0), .val (.int p1), .val (.int p2), .val (.int p3), .val (.int (p1 &&& (3 : Int32))), .val (.int (-1 : Int32)), .val (.ref r_61), .unset, .unset, .unset, .unset, .unset, .unset] [(.int (2 : Int32))])) _
      refine st62 _ ?_
      show Steps p.tables e below (T62.setTop (mkF m 44 #[.val (.int p0), .val (.int p1), .val (.int p2), .val (.int p3), .val (.int (p1 &&& (3 : Int32))), .val (.int (-1 : Int32)), .val (.ref r_61), .unset, .unset, .unset, .unset, .unset, .unset] [(.ref b62)])) _
      refine XS.astore X62.here hx rfl (hb hby at_44) rfl rfl (l' := #[.val (.int p0), .val (.int p1), .val (.int p2), .val (.int p3), .val (.int (p1 &&& (3 : Int32))), .val (.int (-1 : Int32)), .val (.ref r_61), .val (.ref b62), .unset, .unset, .unset, .unset, .unset]) rfl ?_
      show Steps p.tables e below (T62.setTop (mkF m 46 #[.val (.int p0), .val (.int p1), .val (.int p2), .val (.int p3), .val (.int (p1 &&& (3 : Int32))), .val (.int (-1 : Int32)), .val (.ref r_61), .val (.ref b62), .unset, .unset, .unset, .unset, .unset] [])) _
      refine XS.aload X62.here hx rfl (hb hby at_46) rfl rfl ?_
      show Steps p.tables e below (T62.setTop (mkF m 48 #[.val (.int p0), .val (.int p1), .val (.int p2), .val (.int p3), .val (.int (p1 &&& (3 : Int32))), .val (.int (-1 : Int32)), .val (.ref r_61), .val (.ref b62), .unset, .unset, .unset, .unset, .unset] [(.ref b62)])) _
      refine XS.iconst X62.here hx rfl (hb hby at_48) ?_
      show Steps p.tables e below (T62.setTop (mkF m 49 #[.val (.int p0), .val (.int p1), .val (.int p2), .val (.int p3), .val (.int (p1 &&& (3 : Int32))), .val (.int (-1 : Int32)), .val (.ref r_61), .val (.ref b62), .unset, .unset, .unset, .unset, .unset] [(.int (0 : Int32)), (.ref b62)])) _
      refine XS.iloadN X62.here hx rfl (hb hby at_49) rfl ?_
      show Steps p.tables e below (T62.setTop (mkF m 50 #[.val (.int p0), .val (.int p1), .val (.int p2), .val (.int p3), .val (.int (p1 &&& (3 : Int32))), .val (.int (-1 : Int32)), .val (.ref r_61), .val (.ref b62), .unset, .unset, .unset, .unset, .unset] [(.int p2), (.int (0 : Int32)), (.ref b62)])) _
      refine XS.sipush X62.here hx rfl (hb hby at_50) ?_
      show Steps p.tables e below (T62.setTop (mkF m 53 #[.val (.int p0), .val (.int p1), .val (.int p2), .val (.int p3), .val (.int (p1 &&& (3 : Int32))), .val (.int (-1 : Int32)), .val (.ref r_61), .val (.ref b62), .unset, .unset, .unset, .unset, .unset] [(.int (255 : Int32)), (.int p2), (.int (0 : Int32)), (.ref b62)])) _
      refine XS.iand X62.here hx rfl (hb hby at_53) rfl ?_
      show Steps p.tables e below (T62.setTop (mkF m 54 #[.val (.int p0), .val (.int p1), .val (.int p2), .val (.int p3), .val (.int (p1 &&& (3 : Int32))), .val (.int (-1 : Int32)), .val (.ref r_61), .val (.ref b62), .unset, .unset, .unset, .unset, .unset] [(.int (p2 &&& (255 : Int32))), (.int (0 : Int32)), (.ref b62)])) _
      refine XS.i2c X62.here hx rfl (hb hby at_54) rfl ?_
      show Steps p.tables e below (T62.setTop (mkF m 55 #[.val (.int p0), .val (.int p1), .val (.int p2), .val (.int p3), .val (.int (p1 &&& (3 : Int32))), .val (.int (-1 : Int32)), .val (.ref r_61), .val (.ref b62), .unset, .unset, .unset, .unset, .unset] [(.int ((p2 &&& (255 : Int32)).toUInt32.toUInt16.toUInt32.toInt32)), (.int (0 : Int32)), (.ref b62)])) _
      refine st67 _ ?_
      show Steps p.tables e below (T67.setTop (mkF m 56 #[.val (.int p0), .val (.int p1), .val (.int p2), .val (.int p3), .val (.int (p1 &&& (3 : Int32))), .val (.int (-1 : Int32)), .val (.ref r_61), .val (.ref b62), .unset, .unset, .unset, .unset, .unset] [])) _
      refine XS.aload X67.here hx rfl (hb hby at_56) rfl rfl ?_
      show Steps p.tables e below (T67.setTop (mkF m 58 #[.val (.int p0), .val (.int p1), .val (.int p2), .val (.int p3), .val (.int (p1 &&& (3 : Int32))), .val (.int (-1 : Int32)), .val (.ref r_61), .val (.ref b62), .unset, .unset, .unset, .unset, .unset] [(.ref b62)])) _
      refine XS.iconst X67.here hx rfl (hb hby at_58) ?_
      show Steps p.tables e below (T67.setTop (mkF m 59 #[.val (.int p0), .val (.int p1), .val (.int p2), .val (.int p3), .val (.int (p1 &&& (3 : Int32))), .val (.int (-1 : Int32)), .val (.ref r_61), .val (.ref b62), .unset, .unset, .unset, .unset, .unset] [(.int (1 : Int32)), (.ref b62)])) _
      refine XS.iloadN X67.here hx rfl (hb hby at_59) rfl ?_
      show Steps p.tables e below (T67.setTop (mkF m 60 #[.val (.int p0), .val (.int p1), .val (.int p2), .val (.int p3), .val (.int (p1 &&& (3 : Int32))), .val (.int (-1 : Int32)), .val (.ref r_61), .val (.ref b62), .unset, .unset, .unset, .unset, .unset] [(.int p2), (.int (1 : Int32)), (.ref b62)])) _
      refine XS.bipush X67.here hx rfl (hb hby at_60) ?_
      show Steps p.tables e below (T67.setTop (mkF m 62 #[.val (.int p0), .val (.int p1), .val (.int p2), .val (.int p3), .val (.int (p1 &&& (3 : Int32))), .val (.int (-1 : Int32)), .val (.ref r_61), .val (.ref b62), .unset, .unset, .unset, .unset, .unset] [(.int (8 : Int32)), (.int p2), (.int (1 : Int32)), (.ref b62)])) _
      refine XS.iushr X67.here hx rfl (hb hby at_62) rfl ?_
      show Steps p.tables e below (T67.setTop (mkF m 63 #[.val (.int p0), .val (.int p1), .val (.int p2), .val (.int p3), .val (.int (p1 &&& (3 : Int32))), .val (.int (-1 : Int32)), .val (.ref r_61), .val (.ref b62), .unset, .unset, .unset, .unset, .unset] [(.int ((p2.toUInt32 >>> ((8 : Int32) &&& 31).toUInt32).toInt32)), (.int (1 : Int32)), (.ref b62)])) _
      refine XS.sipush X67.here hx rfl (hb hby at_63) ?_
      show Steps p.tables e below (T67.setTop (mkF m 66 #[.val (.int p0), .val (.int p1), .val (.int p2), .val (.int p3), .val (.int (p1 &&& (3 : Int32))), .val (.int (-1 : Int32)), .val (.ref r_61), .val (.ref b62), .unset, .unset, .unset, .unset, .unset] [(.int (255 : Int32)), (.int ((p2.toUInt32 >>> ((8 : Int32) &&& 31).toUInt32).toInt32)), (.int (1 : Int32)), (.ref b62)])) _
      refine XS.iand X67.here hx rfl (hb hby at_66) rfl ?_
      show Steps p.tables e below (T67.setTop (mkF m 67 #[.val (.int p0), .val (.int p1), .val (.int p2), .val (.int p3), .val (.int (p1 &&& (3 : Int32))), .val (.int (-1 : Int32)), .val (.ref r_61), .val (.ref b62), .unset, .unset, .unset, .unset, .unset] [(.int (((p2.toUInt32 >>> ((8 : Int32) &&& 31).toUInt32).toInt32) &&& (255 : Int32))), (.int (1 : Int32)), (.ref b62)])) _
      refine XS.i2c X67.here hx rfl (hb hby at_67) rfl ?_
      show Steps p.tables e below (T67.setTop (mkF m 68 #[.val (.int p0), .val (.int p1), .val (.int p2), .val (.int p3), .val (.int (p1 &&& (3 : Int32))), .val (.int (-1 : Int32)), .val (.ref r_61), .val (.ref b62), .unset, .unset, .unset, .unset, .unset] [(.int ((((p2.toUInt32 >>> ((8 : Int32) &&& 31).toUInt32).toInt32) &&& (255 : Int32)).toUInt32.toUInt16.toUInt32.toInt32)), (.int (1 : Int32)), (.ref b62)])) _
      refine st71 _ ?_
      show Steps p.tables e below (T71.setTop (mkF m 69 #[.val (.int p0), .val (.int p1), .val (.int p2), .val (.int p3), .val (.int (p1 &&& (3 : Int32))), .val (.int (-1 : Int32)), .val (.ref r_61), .val (.ref b62), .unset, .unset, .unset, .unset, .unset] [])) _
      refine st74 _ ?_
      show Steps p.tables e below (T74.setTop (mkF m 72 #[.val (.int p0), .val (.int p1), .val (.int p2), .val (.int p3), .val (.int (p1 &&& (3 : Int32))), .val (.int (-1 : Int32)), .val (.ref r_61), .val (.ref b62), .unset, .unset, .unset, .unset, .unset] [(.ref b74)])) _
      refine XS.dup X74.here hx rfl (hb hby at_72) rfl rfl ?_
      show Steps p.tables e below (T74.setTop (mkF m 73 #[.val (.int p0), .val (.int p1), .val (.int p2), .val (.int p3), .val (.int (p1 &&& (3 : Int32))), .val (.int (-1 : Int32)), .val (.ref r_61), .val (.ref b62), .unset, .unset, .unset, .unset, .unset] [(.ref b74), (.ref b74)])) _
      refine XS.aload X74.here hx rfl (hb hby at_73) rfl rfl ?_
      show Steps p.tables e below (T74.setTop (mkF m 75 #[.val (.int p0), .val (.int p1), .val (.int p2), .val (.int p3), .val (.int (p1 &&& (3 : Int32))), .val (.int (-1 : Int32)), .val (.ref r_61), .val (.ref b62), .unset, .unset, .unset, .unset, .unset] [(.ref b62), (.ref b74), (.ref b74)])) _
      refine st78.trans ?_
      show Steps p.tables e below (T78.setTop (mkF m 78 #[.val (.int p0), .val (.int p1), .val (.int p2), .val (.int p3), .val (.int (p1 &&& (3 : Int32))), .val (.int (-1 : Int32)), .val (.ref r_61), .val (.ref b62), .unset, .unset, .unset, .unset, .unset] [(.ref b74)])) _
      refine XS.astore X78.here hx rfl (hb hby at_78) rfl rfl (l' := #[.val (.int p0), .val (.int p1), .val (.int p2), .val (.int p3), .val (.int (p1 &&& (3 : Int32))), .val (.int (-1 : Int32)), .val (.ref r_61), .val (.ref b62), .val (.ref b74), .unset, .unset, .unset, .unset]) rfl ?_
      show Steps p.tables e below (T78.setTop (mkF m 80 #[.val (.int p0), .val (.int p1), .val (.int p2), .val (.int p3), .val (.int (p1 &&& (3 : Int32))), .val (.int (-1 : Int32)), .val (.ref r_61), .val (.ref b62), .val (.ref b74), .unset, .unset, .unset, .unset] [])) _
      refine XS.iconst X78.here hx rfl (hb hby at_80) ?_
      show Steps p.tables e below (T78.setTop (mkF m 81 #[.val (.int p0), .val (.int p1), .val (.int p2), .val (.int p3), .val (.int (p1 &&& (3 : Int32))), .val (.int (-1 : Int32)), .val (.ref r_61), .val (.ref b62), .val (.ref b74), .unset, .unset, .unset, .unset] [(.int (1 : Int32))])) _
      refine st85 _ ?_
      show Steps p.tables e below (T85.setTop (mkF m 83 #[.val (.int p0), .val (.int p1), .val (.int p2), .val (.int p3), .val (.int (p1 &&& (3 : Int32))), .val (.int (-1 : Int32)), .val (.ref r_61), .val (.ref b62), .val (.ref b74), .unset, .unset, .unset, .unset] [(.ref b85)])) _
      refine XS.astore X85.here hx rfl (hb hby at_83) rfl rfl (l' := #[.val (.int p0), .val (.int p1), .val (.int p2), .val (.int p3), .val (.int (p1 &&& (3 : Int32))), .val (.int (-1 : Int32)), .val (.ref r_61), .val (.ref b62), .val (.ref b74), .val (.ref b85), .unset, .unset, .unset]) rfl ?_
      show Steps p.tables e below (T85.setTop (mkF m 85 #[.val (.int p0), .val (.int p1), .val (.int p2), .val (.int p3), .val (.int (p1 &&& (3 : Int32))), .val (.int (-1 : Int32)), .val (.ref r_61), .val (.ref b62), .val (.ref b74), .val (.ref b85), .unset, .unset, .unset] [])) _
      refine XS.aload X85.here hx rfl (hb hby at_85) rfl rfl ?_
      show Steps p.tables e below (T85.setTop (mkF m 87 #[.val (.int p0), .val (.int p1), .val (.int p2), .val (.int p3), .val (.int (p1 &&& (3 : Int32))), .val (.int (-1 : Int32)), .val (.ref r_61), .val (.ref b62), .val (.ref b74), .val (.ref b85), .unset, .unset, .unset] [(.ref b85)])) _
      refine XS.iconst X85.here hx rfl (hb hby at_87) ?_
      show Steps p.tables e below (T85.setTop (mkF m 88 #[.val (.int p0), .val (.int p1), .val (.int p2), .val (.int p3), .val (.int (p1 &&& (3 : Int32))), .val (.int (-1 : Int32)), .val (.ref r_61), .val (.ref b62), .val (.ref b74), .val (.ref b85), .unset, .unset, .unset] [(.int (0 : Int32)), (.ref b85)])) _
      refine XS.iloadN X85.here hx rfl (hb hby at_88) rfl ?_
      show Steps p.tables e below (T85.setTop (mkF m 89 #[.val (.int p0), .val (.int p1), .val (.int p2), .val (.int p3), .val (.int (p1 &&& (3 : Int32))), .val (.int (-1 : Int32)), .val (.ref r_61), .val (.ref b62), .val (.ref b74), .val (.ref b85), .unset, .unset, .unset] [(.int p3), (.int (0 : Int32)), (.ref b85)])) _
      refine XS.sipush X85.here hx rfl (hb hby at_89) ?_
      show Steps p.tables e below (T85.setTop (mkF m 92 #[.val (.int p0), .val (.int p1), .val (.int p2), .val (.int p3), .val (.int (p1 &&& (3 : Int32))), .val (.int (-1 : Int32)), .val (.ref r_61), .val (.ref b62), .val (.ref b74), .val (.ref b85), .unset, .unset, .unset] [(.int (255 : Int32)), (.int p3), (.int (0 : Int32)), (.ref b85)])) _
      refine XS.iand X85.here hx rfl (hb hby at_92) rfl ?_
      show Steps p.tables e below (T85.setTop (mkF m 93 #[.val (.int p0), .val (.int p1), .val (.int p2), .val (.int p3), .val (.int (p1 &&& (3 : Int32))), .val (.int (-1 : Int32)), .val (.ref r_61), .val (.ref b62), .val (.ref b74), .val (.ref b85), .unset, .unset, .unset] [(.int (p3 &&& (255 : Int32))), (.int (0 : Int32)), (.ref b85)])) _
      refine XS.i2c X85.here hx rfl (hb hby at_93) rfl ?_
      show Steps p.tables e below (T85.setTop (mkF m 94 #[.val (.int p0), .val (.int p1), .val (.int p2), .val (.int p3), .val (.int (p1 &&& (3 : Int32))), .val (.int (-1 : Int32)), .val (.ref r_61), .val (.ref b62), .val (.ref b74), .val (.ref b85), .unset, .unset, .unset] [(.int ((p3 &&& (255 : Int32)).toUInt32.toUInt16.toUInt32.toInt32)), (.int (0 : Int32)), (.ref b85)])) _
      refine st90 _ ?_
      show Steps p.tables e below (T90.setTop (mkF m 95 #[.val (.int p0), .val (.int p1), .val (.int p2), .val (.int p3), .val (.int (p1 &&& (3 : Int32))), .val (.int (-1 : Int32)), .val (.ref r_61), .val (.ref b62), .val (.ref b74), .val (.ref b85), .unset, .unset, .unset] [])) _
      refine st93 _ ?_
      show Steps p.tables e below (T93.setTop (mkF m 98 #[.val (.int p0), .val (.int p1), .val (.int p2), .val (.int p3), .val (.int (p1 &&& (3 : Int32))), .val (.int (-1 : Int32)), .val (.ref r_61), .val (.ref b62), .val (.ref b74), .val (.ref b85), .unset, .unset, .unset] [(.ref b93)])) _
      refine XS.dup X93.here hx rfl (hb hby at_98) rfl rfl ?_
      show Steps p.tables e below (T93.setTop (mkF m 99 #[.val (.int p0), .val (.int p1), .val (.int p2), .val (.int p3), .val (.int (p1 &&& (3 : Int32))), .val (.int (-1 : Int32)), .val (.ref r_61), .val (.ref b62), .val (.ref b74), .val (.ref b85), .unset, .unset, .unset] [(.ref b93), (.ref b93)])) _
      refine XS.aload X93.here hx rfl (hb hby at_99) rfl rfl ?_
      show Steps p.tables e below (T93.setTop (mkF m 101 #[.val (.int p0), .val (.int p1), .val (.int p2), .val (.int p3), .val (.int (p1 &&& (3 : Int32))), .val (.int (-1 : Int32)), .val (.ref r_61), .val (.ref b62), .val (.ref b74), .val (.ref b85), .unset, .unset, .unset] [(.ref b85), (.ref b93), (.ref b93)])) _
      refine st97.trans ?_
      show Steps p.tables e below (T97.setTop (mkF m 104 #[.val (.int p0), .val (.int p1), .val (.int p2), .val (.int p3), .val (.int (p1 &&& (3 : Int32))), .val (.int (-1 : Int32)), .val (.ref r_61), .val (.ref b62), .val (.ref b74), .val (.ref b85), .unset, .unset, .unset] [(.ref b93)])) _
      refine XS.astore X97.here hx rfl (hb hby at_104) rfl rfl (l' := #[.val (.int p0), .val (.int p1), .val (.int p2), .val (.int p3), .val (.int (p1 &&& (3 : Int32))), .val (.int (-1 : Int32)), .val (.ref r_61), .val (.ref b62), .val (.ref b74), .val (.ref b85), .val (.ref b93), .unset, .unset]) rfl ?_
      show Steps p.tables e below (T97.setTop (mkF m 106 #[.val (.int p0), .val (.int p1), .val (.int p2), .val (.int p3), .val (.int (p1 &&& (3 : Int32))), .val (.int (-1 : Int32)), .val (.ref r_61), .val (.ref b62), .val (.ref b74), .val (.ref b85), .val (.ref b93), .unset, .unset] [])) _
      refine st104 _ ?_
      show Steps p.tables e below (T104.setTop (mkF m 109 #[.val (.int p0), .val (.int p1), .val (.int p2), .val (.int p3), .val (.int (p1 &&& (3 : Int32))), .val (.int (-1 : Int32)), .val (.ref r_61), .val (.ref b62), .val (.ref b74), .val (.ref b85), .val (.ref b93), .unset, .unset] [(.ref b104)])) _
      refine XS.dup X104.here hx rfl (hb hby at_109) rfl rfl ?_
      show Steps p.tables e below (T104.setTop (mkF m 110 #[.val (.int p0), .val (.int p1), .val (.int p2), .val (.int p3), .val (.int (p1 &&& (3 : Int32))), .val (.int (-1 : Int32)), .val (.ref r_61), .val (.ref b62), .val (.ref b74), .val (.ref b85), .val (.ref b93), .unset, .unset] [(.ref b104), (.ref b104)])) _
      refine XS.aload X104.here hx rfl (hb hby at_110) rfl rfl ?_
      show Steps p.tables e below (T104.setTop (mkF m 112 #[.val (.int p0), .val (.int p1), .val (.int p2), .val (.int p3), .val (.int (p1 &&& (3 : Int32))), .val (.int (-1 : Int32)), .val (.ref r_61), .val (.ref b62), .val (.ref b74), .val (.ref b85), .val (.ref b93), .unset, .unset] [(.ref b74), (.ref b104), (.ref b104)])) _
      refine XS.iload X104.here hx rfl (hb hby at_112) rfl ?_
      show Steps p.tables e below (T104.setTop (mkF m 114 #[.val (.int p0), .val (.int p1), .val (.int p2), .val (.int p3), .val (.int (p1 &&& (3 : Int32))), .val (.int (-1 : Int32)), .val (.ref r_61), .val (.ref b62), .val (.ref b74), .val (.ref b85), .val (.ref b93), .unset, .unset] [(.int (-1 : Int32)), (.ref b74), (.ref b104), (.ref b104)])) _
      refine XS.aload X104.here hx rfl (hb hby at_114) rfl rfl ?_
      show Steps p.tables e below (T104.setTop (mkF m 116 #[.val (.int p0), .val (.int p1), .val (.int p2), .val (.int p3), .val (.int (p1 &&& (3 : Int32))), .val (.int (-1 : Int32)), .val (.ref r_61), .val (.ref b62), .val (.ref b74), .val (.ref b85), .val (.ref b93), .unset, .unset] [(.ref r_61), (.int (-1 : Int32)), (.ref b74), (.ref b104), (.ref b104)])) _
      refine XS.aload X104.here hx rfl (hb hby at_116) rfl rfl ?_
      show Steps p.tables e below (T104.setTop (mkF m 118 #[.val (.int p0), .val (.int p1), .val (.int p2), .val (.int p3), .val (.int (p1 &&& (3 : Int32))), .val (.int (-1 : Int32)), .val (.ref r_61), .val (.ref b62), .val (.ref b74), .val (.ref b85), .val (.ref b93), .unset, .unset] [(.ref b93), (.ref r_61), (.int (-1 : Int32)), (.ref b74), (.ref b104), (.ref b104)])) _
      refine st108.trans ?_
      show Steps p.tables e below (T108.setTop (mkF m 121 #[.val (.int p0), .val (.int p1), .val (.int p2), .val (.int p3), .val (.int (p1 &&& (3 : Int32))), .val (.int (-1 : Int32)), .val (.ref r_61), .val (.ref b62), .val (.ref b74), .val (.ref b85), .val (.ref b93), .unset, .unset] [(.ref b104)])) _
      refine XS.astore X108.here hx rfl (hb hby at_121) rfl rfl (l' := #[.val (.int p0), .val (.int p1), .val (.int p2), .val (.int p3), .val (.int (p1 &&& (3 : Int32))), .val (.int (-1 : Int32)), .val (.ref r_61), .val (.ref b62), .val (.ref b74), .val (.ref b85), .val (.ref b93), .val (.ref b104), .unset]) rfl ?_
      show Steps p.tables e below (T108.setTop (mkF m 123 #[.val (.int p0), .val (.int p1), .val (.int p2), .val (.int p3), .val (.int (p1 &&& (3 : Int32))), .val (.int (-1 : Int32)), .val (.ref r_61), .val (.ref b62), .val (.ref b74), .val (.ref b85), .val (.ref b93), .val (.ref b104), .unset] [])) _
      refine XS.iload X108.here hx rfl (hb hby at_123) rfl ?_
      show Steps p.tables e below (T108.setTop (mkF m 125 #[.val (.int p0), .val (.int p1), .val (.int p2), .val (.int p3), .val (.int (p1 &&& (3 : Int32))), .val (.int (-1 : Int32)), .val (.ref r_61), .val (.ref b62), .val (.ref b74), .val (.ref b85), .val (.ref b93), .val (.ref b104), .unset] [(.int (-1 : Int32))])) _
      refine XS.iconst X108.here hx rfl (hb hby at_125) ?_
      show Steps p.tables e below (T108.setTop (mkF m 126 #[.val (.int p0), .val (.int p1), .val (.int p2), .val (.int p3), .val (.int (p1 &&& (3 : Int32))), .val (.int (-1 : Int32)), .val (.ref r_61), .val (.ref b62), .val (.ref b74), .val (.ref b85), .val (.ref b93), .val (.ref b104), .unset] [(.int (-1 : Int32)), (.int (-1 : Int32))])) _
      refine XS.icmpNo X108.here hx rfl (hb hby at_126) rfl (flt (by decide : ¬ ((-1 : Int32) < (-1 : Int32)))).1 ?_
      show Steps p.tables e below (T108.setTop (mkF m 129 #[.val (.int p0), .val (.int p1), .val (.int p2), .val (.int p3), .val (.int (p1 &&& (3 : Int32))), .val (.int (-1 : Int32)), .val (.ref r_61), .val (.ref b62), .val (.ref b74), .val (.ref b85), .val (.ref b93), .val (.ref b104), .unset] [])) _
      refine XS.iload X108.here hx rfl (hb hby at_129) rfl ?_
      show Steps p.tables e below (T108.setTop (mkF m 131 #[.val (.int p0), .val (.int p1), .val (.int p2), .val (.int p3), .val (.int (p1 &&& (3 : Int32))), .val (.int (-1 : Int32)), .val (.ref r_61), .val (.ref b62), .val (.ref b74), .val (.ref b85), .val (.ref b93), .val (.ref b104), .unset] [(.int (-1 : Int32))])) _
      refine XS.iconst X108.here hx rfl (hb hby at_131) ?_
      show Steps p.tables e below (T108.setTop (mkF m 132 #[.val (.int p0), .val (.int p1), .val (.int p2), .val (.int p3), .val (.int (p1 &&& (3 : Int32))), .val (.int (-1 : Int32)), .val (.ref r_61), .val (.ref b62), .val (.ref b74), .val (.ref b85), .val (.ref b93), .val (.ref b104), .unset] [(.int (-1 : Int32)), (.int (-1 : Int32))])) _
      refine XS.icmpYes X108.here hx rfl (pc0 := 132) (pc' := 139) rfl (hb hby at_132) rfl (flt (by decide : ¬ ((-1 : Int32) < (-1 : Int32)))).2.2.2 (by decide) (by decide) ?_
      show Steps p.tables e below (T108.setTop (mkF m 139 #[.val (.int p0), .val (.int p1), .val (.int p2), .val (.int p3), .val (.int (p1 &&& (3 : Int32))), .val (.int (-1 : Int32)), .val (.ref r_61), .val (.ref b62), .val (.ref b74), .val (.ref b85), .val (.ref b93), .val (.ref b104), .unset] [])) _
      refine XS.iconst X108.here hx rfl (hb hby at_139) ?_
      show Steps p.tables e below (T108.setTop (mkF m 140 #[.val (.int p0), .val (.int p1), .val (.int p2), .val (.int p3), .val (.int (p1 &&& (3 : Int32))), .val (.int (-1 : Int32)), .val (.ref r_61), .val (.ref b62), .val (.ref b74), .val (.ref b85), .val (.ref b93), .val (.ref b104), .unset] [(.int (0 : Int32))])) _
      refine XS.istore X108.here hx rfl (hb hby at_140) rfl (l' := #[.val (.int p0), .val (.int p1), .val (.int p2), .val (.int p3), .val (.int (p1 &&& (3 : Int32))), .val (.int (-1 : Int32)), .val (.ref r_61), .val (.ref b62), .val (.ref b74), .val (.ref b85), .val (.ref b93), .val (.ref b104), .val (.int (0 : Int32))]) rfl ?_
      show Steps p.tables e below (T108.setTop (mkF m 142 #[.val (.int p0), .val (.int p1), .val (.int p2), .val (.int p3), .val (.int (p1 &&& (3 : Int32))), .val (.int (-1 : Int32)), .val (.ref r_61), .val (.ref b62), .val (.ref b74), .val (.ref b85), .val (.ref b93), .val (.ref b104), .val (.int (0 : Int32))] [])) _
      refine XS.aload X108.here hx rfl (hb hby at_142) rfl rfl ?_
      show Steps p.tables e below (T108.setTop (mkF m 144 #[.val (.int p0), .val (.int p1), .val (.int p2), .val (.int p3), .val (.int (p1 &&& (3 : Int32))), .val (.int (-1 : Int32)), .val (.ref r_61), .val (.ref b62), .val (.ref b74), .val (.ref b85), .val (.ref b93), .val (.ref b104), .val (.int (0 : Int32))] [(.ref b104)])) _
      refine st114.trans ?_
      show Steps p.tables e below (T114.setTop (mkF m 147 #[.val (.int p0), .val (.int p1), .val (.int p2), .val (.int p3), .val (.int (p1 &&& (3 : Int32))), .val (.int (-1 : Int32)), .val (.ref r_61), .val (.ref b62), .val (.ref b74), .val (.ref b85), .val (.ref b93), .val (.ref b104), .val (.int (0 : Int32))] [(.int (bi (¬ ((-1 : Int32) = (-1 : Int32)))))])) _
      refine XS.iload X114.here hx rfl (hb hby at_147) rfl ?_
      show Steps p.tables e below (T114.setTop (mkF m 149 #[.val (.int p0), .val (.int p1), .val (.int p2), .val (.int p3), .val (.int (p1 &&& (3 : Int32))), .val (.int (-1 : Int32)), .val (.ref r_61), .val (.ref b62), .val (.ref b74), .val (.ref b85), .val (.ref b93), .val (.ref b104), .val (.int (0 : Int32))] [(.int (0 : Int32)), (.int (bi (¬ ((-1 : Int32) = (-1 : Int32)))))])) _
      refine XS.icmpNo X114.here hx rfl (hb hby at_149) rfl (teq (by decide : (bi (¬ ((-1 : Int32) = (-1 : Int32)))) = (0 : Int32))).2 ?_
      show Steps p.tables e below (T114.setTop (mkF m 152 #[.val (.int p0), .val (.int p1), .val (.int p2), .val (.int p3), .val (.int (p1 &&& (3 : Int32))), .val (.int (-1 : Int32)), .val (.ref r_61), .val (.ref b62), .val (.ref b74), .val (.ref b85), .val (.ref b93), .val (.ref b104), .val (.int (0 : Int32))] [])) _
      refine XS.aload X114.here hx rfl (hb hby at_152) rfl rfl ?_
      show Steps p.tables e below (T114.setTop (mkF m 154 #[.val (.int p0), .val (.int p1), .val (.int p2), .val (.int p3), .val (.int (p1 &&& (3 : Int32))), .val (.int (-1 : Int32)), .val (.ref r_61), .val (.ref b62), .val (.ref b74), .val (.ref b85), .val (.ref b93), .val (.ref b104), .val (.int (0 : Int32))] [(.ref b104)])) _
      refine st115.trans ?_
      show Steps p.tables e below (T115.setTop (mkF m 157 #[.val (.int p0), .val (.int p1), .val (.int p2), .val (.int p3), .val (.int (p1 &&& (3 : Int32))), .val (.int (-1 : Int32)), .val (.ref r_61), .val (.ref b62), .val (.ref b74), .val (.ref b85), .val (.ref b93), .val (.ref b104), .val (.int (0 : Int32))] [(.int (-1 : Int32))])) _
      refine XS.iload X115.here hx rfl (hb hby at_157) rfl ?_
      show Steps p.tables e below (T115.setTop (mkF m 159 #[.val (.int p0), .val (.int p1), .val (.int p2), .val (.int p3), .val (.int (p1 &&& (3 : Int32))), .val (.int (-1 : Int32)), .val (.ref r_61), .val (.ref b62), .val (.ref b74), .val (.ref b85), .val (.ref b93), .val (.ref b104), .val (.int (0 : Int32))] [(.int (-1 : Int32)), (.int (-1 : Int32))])) _
      refine XS.icmpNo X115.here hx rfl (hb hby at_159) rfl (teq (by decide : (-1 : Int32) = (-1 : Int32))).2 ?_
      show Steps p.tables e below (T115.setTop (mkF m 162 #[.val (.int p0), .val (.int p1), .val (.int p2), .val (.int p3), .val (.int (p1 &&& (3 : Int32))), .val (.int (-1 : Int32)), .val (.ref r_61), .val (.ref b62), .val (.ref b74), .val (.ref b85), .val (.ref b93), .val (.ref b104), .val (.int (0 : Int32))] [])) _
      refine XS.iconst X115.here hx rfl (hb hby at_162) ?_
      show Steps p.tables e below (T115.setTop (mkF m 163 #[.val (.int p0), .val (.int p1), .val (.int p2), .val (.int p3), .val (.int (p1 &&& (3 : Int32))), .val (.int (-1 : Int32)), .val (.ref r_61), .val (.ref b62), .val (.ref b74), .val (.ref b85), .val (.ref b93), .val (.ref b104), .val (.int (0 : Int32))] [(.int (1 : Int32))])) _
      refine XS.goto X115.here hx rfl (pc0 := 163) (pc' := 167) rfl (hb hby at_163) (by decide) (by decide) ?_
      show Steps p.tables e below (T115.setTop (mkF m 167 #[.val (.int p0), .val (.int p1), .val (.int p2), .val (.int p3), .val (.int (p1 &&& (3 : Int32))), .val (.int (-1 : Int32)), .val (.ref r_61), .val (.ref b62), .val (.ref b74), .val (.ref b85), .val (.ref b93), .val (.ref b104), .val (.int (0 : Int32))] [(.int (1 : Int32))])) _
      exact retN X115 hx (t := .boolean) Bd.returns (by simp) (hb hby at_167) hr
    · show Qrm0 Z p0 p1 p2 p3 w0 w1 w2 w3 G1 h0 n0 _ T115.heap _
      rw [e115]
      exact ⟨rfl, N115, KC111⟩
  · have pre117 : ∀ t, Steps p.tables e below (s₁.setTop (mkF m 19 #[.val (.int p0), .val (.int p1), .val (.int p2), .val (.int p3), .val (.int (p1 &&& (3 : Int32))), .unset, .unset, .unset, .unset, .unset, .unset, .unset, .unset] [(.int (1 : Int32)), (.int (p1 &&& (3 : Int32)))])) t → Steps p.tables e below (s₁.setTop (entryFrame m #[(.int p0), (.int p1), (.int p2), (.int p3)] maxLocals)) t := fun t k => by
      refine pre59 _ ?_
      show Steps p.tables e below (s₁.setTop (mkF m 7 #[.val (.int p0), .val (.int p1), .val (.int p2), .val (.int p3), .val (.int (p1 &&& (3 : Int32))), .unset, .unset, .unset, .unset, .unset, .unset, .unset, .unset] [(.int (p1 &&& (3 : Int32)))])) _
      refine XS.ifYes X0.here hx rfl (pc0 := 7) (pc' := 16) rfl (hb hby at_7) rfl ((if0 _ _).trans (feq (hc60 : ¬ ((p1 &&& (3 : Int32)) = (0 : Int32)))).2) (by decide) (by decide) ?_
      show Steps p.tables e below (s₁.setTop (mkF m 16 #[.val (.int p0), .val (.int p1), .val (.int p2), .val (.int p3), .val (.int (p1 &&& (3 : Int32))), .unset, .unset, .unset, .unset, .unset, .unset, .unset, .unset] [])) _
      refine XS.iload X0.here hx rfl (hb hby at_16) rfl ?_
      show Steps p.tables e below (s₁.setTop (mkF m 18 #[.val (.int p0), .val (.int p1), .val (.int p2), .val (.int p3), .val (.int (p1 &&& (3 : Int32))), .unset, .unset, .unset, .unset, .unset, .unset, .unset, .unset] [(.int (p1 &&& (3 : Int32)))])) _
      refine XS.iconst X0.here hx rfl (hb hby at_18) ?_
      exact k
    by_cases hc118 : (p1 &&& (3 : Int32)) = (1 : Int32)
    · obtain ⟨_, _, ⟨T119, L119, k119, n119⟩, -, X119, ⟨Lc119, hQ119, l119, y119, z119⟩, st119⟩ := Jvm.LawKit.callS X0 hx (y := (⟨"com/example/nestor/nestor/core/OccurrenceHasLinePinLaw", "kindOf", "(I)Lcom/example/nestor/nestor/model/UseKind;"⟩ : MethodName)) hown (mvT hZ (hw _ (List.mem_of_getElem? (i := 0) rfl))) (mvT hZ (hw _ (List.mem_of_getElem? (i := 1) rfl))) (mvT hZ (hw _ (List.mem_of_getElem? (i := 2) rfl))) (mvT hZ (hw _ (List.mem_of_getElem? (i := 3) rfl))) (by decide) (backOf (W := 0) (rm1 l Z a0 hw [] (((p1.toUInt32 >>> ((2 : Int32) &&& 31).toUInt32).toInt32) &&& (3 : Int32)) w0 w1 w2 w3 h0 n0 (by omega) H0 H1 H2 H3) hZ (hw _ (List.mem_of_getElem? (i := 3) rfl)) (hw _ (List.mem_of_getElem? (i := 2) rfl)) (by decide) (by decide)) (g := (mkF m 36 #[.val (.int p0), .val (.int p1), .val (.int p2), .val (.int p3), .val (.int (p1 &&& (3 : Int32))), .val (.int (0 : Int32)), .unset, .unset, .unset, .unset, .unset, .unset, .unset] [(.int (((p1.toUInt32 >>> ((2 : Int32) &&& 31).toUInt32).toInt32) &&& (3 : Int32)))])) rfl (by rw [hml]; rfl) (argsL := [(.int (((p1.toUInt32 >>> ((2 : Int32) &&& 31).toUInt32).toInt32) &&& (3 : Int32)))]) (rest := []) (lenOf pd_2 rfl) rfl (by show 2 * 0 + _ ≤ _; exact Nat.le_of_eq rfl) (hb hby at_36) (fun _ _ => ⟨rfl, e0, (by decide : 0 + 0 ≤ _), (by decide : 0 + 0 ≤ _)⟩)
      dsimp only [Pt.U, Pt.locs, Pt.cells, Pt.slots] at X119 l119 y119 z119 st119 hQ119
      subst l119 y119 z119
      obtain ⟨r_119, rfl, N119q, e119⟩ := hQ119
      have N119 := Fr.app N0 N119q
      obtain ⟨T120, h120, k120, X120, e120, E120, A120, st120⟩ := newP X119 hx hZ (hw _ (List.mem_of_getElem? (i := 7) rfl)) e119 (g := (mkF m 42 #[.val (.int p0), .val (.int p1), .val (.int p2), .val (.int p3), .val (.int (p1 &&& (3 : Int32))), .val (.int (0 : Int32)), .val (.ref r_119), .unset, .unset, .unset, .unset, .unset, .unset] [(.int (2 : Int32))])) rfl (hb hby at_42) rfl (by decide) (cap := 2) (by decide) (by decide) (by decide) (by decide)
      obtain ⟨b120, g120⟩ : ∃ z, z = h0.size := ⟨_, rfl⟩
      rw [← g120] at A120 st120
      have z121 := E120.1
      have KC122 : Keep h0 h120 [] := KC0.ext E120
      have V120 : Arv Z h120 b120 k120 .char (2 : Int32) [(.int (0 : Int32)), (.int (0 : Int32))] (.int (0 : Int32)) := (Arv.new A120 (by decide)).pad (pad_rep [] (.int (0 : Int32)) 2)
      have z123 : @LT.lt Nat _ b120 (Array.size h120) := V120.lt
      obtain ⟨cl124, Ar124, q124, S124, N124', H124, G124⟩ := id V120
      have hin124 : ¬ ((0 : Int32) < 0 ∨ cl124.slots.size ≤ ((0 : Int32)).toNatClampNeg) := inb_of S124 ⟨by decide, by decide⟩
      obtain ⟨T125, h125, X125, e125, W125, st125⟩ := stC X120 hx hZ e120 Ar124 (j := (0 : Int32)) hin124 (g := (mkF m 55 #[.val (.int p0), .val (.int p1), .val (.int p2), .val (.int p3), .val (.int (p1 &&& (3 : Int32))), .val (.int (0 : Int32)), .val (.ref r_119), .val (.ref b120), .unset, .unset, .unset, .unset, .unset] [(.int ((p2 &&& (255 : Int32)).toUInt32.toUInt16.toUInt32.toInt32)), (.int (0 : Int32)), (.ref b120)])) rfl rfl (hb hby at_55)
      have z126 := W125.size
      have N125 := Fr.snoc X125 N119 (by omega : n0 ≤ b120)
      have KC127 : Keep h0 h125 [] := KC122.wr W125 (Or.inr (by omega))
      have V125 : Arv Z h125 b120 k120 .char (2 : Int32) [(.int (nar .char ((p2 &&& (255 : Int32)).toUInt32.toUInt16.toUInt32.toInt32))), (.int (0 : Int32))] (.int (0 : Int32)) := Arv.set Ar124 q124 S124 N124' H124 G124 (fits_nar_char _) W125 0 rfl (Nat.le_of_ble_eq_true rfl)
      obtain ⟨cl128, Ar128, q128, S128, N128', H128, G128⟩ := id V125
      have hin128 : ¬ ((1 : Int32) < 0 ∨ cl128.slots.size ≤ ((1 : Int32)).toNatClampNeg) := inb_of S128 ⟨by decide, by decide⟩
      obtain ⟨T129, h129, X129, e129, W129, st129⟩ := stC X125 hx hZ e125 Ar128 (j := (1 : Int32)) hin128 (g := (mkF m 68 #[.val (.int p0), .val (.int p1), .val (.int p2), .val (.int p3), .val (.int (p1 &&& (3 : Int32))), .val (.int (0 : Int32)), .val (.ref r_119), .val (.ref b120), .unset, .unset, .unset, .unset, .unset] [(.int ((((p2.toUInt32 >>> ((8 : Int32) &&& 31).toUInt32).toInt32) &&& (255 : Int32)).toUInt32.toUInt16.toUInt32.toInt32)), (.int (1 : Int32)), (.ref b120)])) rfl rfl (hb hby at_68)
      have z130 := W129.size
      have N129 := Fr.snoc X129 N125 (by omega : n0 ≤ b120)
      have KC131 : Keep h0 h129 [] := KC127.wr W129 (Or.inr (by omega))
      have V129 : Arv Z h129 b120 k120 .char (2 : Int32) [(.int (nar .char ((p2 &&& (255 : Int32)).toUInt32.toUInt16.toUInt32.toInt32))), (.int (nar .char ((((p2.toUInt32 >>> ((8 : Int32) &&& 31).toUInt32).toInt32) &&& (255 : Int32)).toUInt32.toUInt16.toUInt32.toInt32)))] (.int (0 : Int32)) := Arv.set Ar128 q128 S128 N128' H128 G128 (fits_nar_char _) W129 1 rfl (Nat.le_of_ble_eq_true rfl)
      obtain ⟨T132, h132, X132, e132, E132, A132, D132, -, st132⟩ := newO X129 hx hZ hown (hw _ (List.mem_of_getElem? (i := 8) rfl)) (hw _ (List.mem_of_getElem? (i := 9) rfl)) (hw _ (List.mem_of_getElem? (i := 10) rfl)) e129 (g := (mkF m 69 #[.val (.int p0), .val (.int p1), .val (.int p2), .val (.int p3), .val (.int (p1 &&& (3 : Int32))), .val (.int (0 : Int32)), .val (.ref r_119), .val (.ref b120), .unset, .unset, .unset, .unset, .unset] [])) rfl (hb hby at_69) (by decide) (by decide)
      obtain ⟨b132, g132⟩ : ∃ z, z = h129.size := ⟨_, rfl⟩
      rw [← g132] at A132 D132 st132
      have z133 := E132.1
      have KC134 : Keep h0 h132 [] := KC131.ext E132
      have z135 : @LT.lt Nat _ b132 (Array.size h132) := A132.lt
      have F132_coder : Fld Z h132 b132 "java/lang/String" "coder" "B" (.int (0 : Int32)) := D132 (Or.inr (hw _ (List.mem_of_getElem? (i := 34) rfl))) (ty := .byte) (by decide)
      have F132_value : Fld Z h132 b132 "java/lang/String" "value" "[B" .null := D132 (Or.inr (hw _ (List.mem_of_getElem? (i := 36) rfl))) (ty := (.array .byte)) (by decide)
      have Fc137 := (V129.ext E132)
      have Fc138 := ((((H4.ext E120).wr W125).wr W129).ext E132)
      have hp136 : ∀ c ∈ ([(nar .char ((p2 &&& (255 : Int32)).toUInt32.toUInt16.toUInt32.toInt32)), (nar .char ((((p2.toUInt32 >>> ((8 : Int32) &&& 31).toUInt32).toInt32) &&& (255 : Int32)).toUInt32.toUInt16.toUInt32.toInt32))] : List Int32), ¬ c < 0 ∧ ¬ (255 : Int32) < c := by
        intro c hc
        simp only [List.mem_cons, List.not_mem_nil, or_false] at hc
        rcases hc with rfl | rfl
        · exact (own_c255 p2)
        · exact (own_c255 ((p2.toUInt32 >>> ((8 : Int32) &&& 31).toUInt32).toInt32))
      obtain ⟨_, _, ⟨T136, L136, k136, n136⟩, -, X136, ⟨Lc136, hQ136, l136, y136, z136⟩, st136⟩ := X132.specialBack hx (y := (⟨"java/lang/String", "<init>", "([C)V"⟩ : MethodName)) rfl hown (mvT hZ (hw _ (List.mem_of_getElem? (i := 11) rfl))) (mvT hZ (hw _ (List.mem_of_getElem? (i := 12) rfl))) (mvT hZ (hw _ (List.mem_of_getElem? (i := 13) rfl))) (by decide) (StrChars.Road.backV (W := 1) hZ (fun d hd => hw d (own_words d hd)) (kI := 4) (hw _ (List.mem_of_getElem? (i := 9) rfl)) (cs := ([(nar .char ((p2 &&& (255 : Int32)).toUInt32.toUInt16.toUInt32.toInt32)), (nar .char ((((p2.toUInt32 >>> ((8 : Int32) &&& 31).toUInt32).toInt32) &&& (255 : Int32)).toUInt32.toUInt16.toUInt32.toInt32))] : List Int32)) (bs := (([(nar .char ((p2 &&& (255 : Int32)).toUInt32.toUInt16.toUInt32.toInt32)), (nar .char ((((p2.toUInt32 >>> ((8 : Int32) &&& 31).toUInt32).toInt32) &&& (255 : Int32)).toUInt32.toUInt16.toUInt32.toInt32))] : List Int32)).map (fun c => c.toInt8.toInt32)) (n := 2) (by omega : n0 ≤ b132) (by omega : n0 ≤ h132.size) A132 F132_value F132_coder Fc137 Fc138 hG1 rfl rfl (by decide) (by decide) hp136 rfl (by decide) (by decide)) (g := (mkF m 75 #[.val (.int p0), .val (.int p1), .val (.int p2), .val (.int p3), .val (.int (p1 &&& (3 : Int32))), .val (.int (0 : Int32)), .val (.ref r_119), .val (.ref b120), .unset, .unset, .unset, .unset, .unset] [(.ref b120), (.ref b132), (.ref b132)])) rfl (by rw [hml]; rfl) (Steps.refl _) (a := b132) (argsL := [(.ref b120)]) (rest := [(.ref b132)]) (lenOf pd_3 rfl) rfl (by show 2 * 0 + _ ≤ _; exact Nat.le_of_eq rfl) (hb hby at_75) (fun _ _ => ⟨rfl, e132, (by decide : 2 + 1 ≤ _), (by decide : 6 + 2 ≤ _)⟩)
      dsimp only [Pt.U, Pt.locs, Pt.cells, Pt.slots] at X136 l136 y136 z136 st136 hQ136
      subst l136 y136 z136
      obtain ⟨rfl, N136q, K136, P136E, P136C, bv136, kb136, u136a, u136b, u136c, P136V, P136A⟩ := hQ136
      have N136 := Fr.app N129 N136q
      have z139 := K136.1
      have KC140 : Keep h0 T136.heap [] := KC134.trans K136 (allS (Or.inr (by omega)) all0)
      have P136B : Arv Z T136.heap bv136 kb136 .byte (2 : Int32) [(.int ((nar .char ((p2 &&& (255 : Int32)).toUInt32.toUInt16.toUInt32.toInt32))).toInt8.toInt32), (.int ((nar .char ((((p2.toUInt32 >>> ((8 : Int32) &&& 31).toUInt32).toInt32) &&& (255 : Int32)).toUInt32.toUInt16.toUInt32.toInt32))).toInt8.toInt32)] (.int (0 : Int32)) := P136A
      have z141 : @LT.lt Nat _ b132 (Array.size T136.heap) := P136E.lt
      have z142 : @LT.lt Nat _ bv136 (Array.size T136.heap) := P136A.lt
      obtain ⟨T143, h143, k143, X143, e143, E143, A143, st143⟩ := newP X136 hx hZ (hw _ (List.mem_of_getElem? (i := 7) rfl)) rfl (g := (mkF m 81 #[.val (.int p0), .val (.int p1), .val (.int p2), .val (.int p3), .val (.int (p1 &&& (3 : Int32))), .val (.int (0 : Int32)), .val (.ref r_119), .val (.ref b120), .val (.ref b132), .unset, .unset, .unset, .unset] [(.int (1 : Int32))])) rfl (hb hby at_81) rfl (by decide) (cap := 1) (by decide) (by decide) (by decide) (by decide)
      obtain ⟨b143, g143⟩ : ∃ z, z = T136.heap.size := ⟨_, rfl⟩
      rw [← g143] at A143 st143
      have z144 := E143.1
      have KC145 : Keep h0 h143 [] := KC140.ext E143
      have V143 : Arv Z h143 b143 k143 .char (1 : Int32) [(.int (0 : Int32))] (.int (0 : Int32)) := (Arv.new A143 (by decide)).pad (pad_rep [] (.int (0 : Int32)) 1)
      have z146 : @LT.lt Nat _ b143 (Array.size h143) := V143.lt
      obtain ⟨cl147, Ar147, q147, S147, N147', H147, G147⟩ := id V143
      have hin147 : ¬ ((0 : Int32) < 0 ∨ cl147.slots.size ≤ ((0 : Int32)).toNatClampNeg) := inb_of S147 ⟨by decide, by decide⟩
      obtain ⟨T148, h148, X148, e148, W148, st148⟩ := stC X143 hx hZ e143 Ar147 (j := (0 : Int32)) hin147 (g := (mkF m 94 #[.val (.int p0), .val (.int p1), .val (.int p2), .val (.int p3), .val (.int (p1 &&& (3 : Int32))), .val (.int (0 : Int32)), .val (.ref r_119), .val (.ref b120), .val (.ref b132), .val (.ref b143), .unset, .unset, .unset] [(.int ((p3 &&& (255 : Int32)).toUInt32.toUInt16.toUInt32.toInt32)), (.int (0 : Int32)), (.ref b143)])) rfl rfl (hb hby at_94)
      have z149 := W148.size
      have N148 := Fr.snoc X148 N136 (by omega : n0 ≤ b143)
      have KC150 : Keep h0 h148 [] := KC145.wr W148 (Or.inr (by omega))
      have V148 : Arv Z h148 b143 k143 .char (1 : Int32) [(.int (nar .char ((p3 &&& (255 : Int32)).toUInt32.toUInt16.toUInt32.toInt32)))] (.int (0 : Int32)) := Arv.set Ar147 q147 S147 N147' H147 G147 (fits_nar_char _) W148 0 rfl (Nat.le_of_ble_eq_true rfl)
      obtain ⟨T151, h151, X151, e151, E151, A151, D151, -, st151⟩ := newO X148 hx hZ hown (hw _ (List.mem_of_getElem? (i := 8) rfl)) (hw _ (List.mem_of_getElem? (i := 9) rfl)) (hw _ (List.mem_of_getElem? (i := 10) rfl)) e148 (g := (mkF m 95 #[.val (.int p0), .val (.int p1), .val (.int p2), .val (.int p3), .val (.int (p1 &&& (3 : Int32))), .val (.int (0 : Int32)), .val (.ref r_119), .val (.ref b120), .val (.ref b132), .val (.ref b143), .unset, .unset, .unset] [])) rfl (hb hby at_95) (by decide) (by decide)
      obtain ⟨b151, g151⟩ : ∃ z, z = h148.size := ⟨_, rfl⟩
      rw [← g151] at A151 D151 st151
      have z152 := E151.1
      have KC153 : Keep h0 h151 [] := KC150.ext E151
      have z154 : @LT.lt Nat _ b151 (Array.size h151) := A151.lt
      have F151_coder : Fld Z h151 b151 "java/lang/String" "coder" "B" (.int (0 : Int32)) := D151 (Or.inr (hw _ (List.mem_of_getElem? (i := 34) rfl))) (ty := .byte) (by decide)
      have F151_value : Fld Z h151 b151 "java/lang/String" "value" "[B" .null := D151 (Or.inr (hw _ (List.mem_of_getElem? (i := 36) rfl))) (ty := (.array .byte)) (by decide)
      have Fc156 := (V148.ext E151)
      have Fc157 := ((((own_staK Fc138 K136 (allS ⟨_, A132⟩ all0)).ext E143).wr W148).ext E151)
      have hp155 : ∀ c ∈ ([(nar .char ((p3 &&& (255 : Int32)).toUInt32.toUInt16.toUInt32.toInt32))] : List Int32), ¬ c < 0 ∧ ¬ (255 : Int32) < c := by
        intro c hc
        simp only [List.mem_cons, List.not_mem_nil, or_false] at hc
        subst hc
        exact (own_c255 p3)
      obtain ⟨_, _, ⟨T155, L155, k155, n155⟩, -, X155, ⟨Lc155, hQ155, l155, y155, z155⟩, st155⟩ := X151.specialBack hx (y := (⟨"java/lang/String", "<init>", "([C)V"⟩ : MethodName)) rfl hown (mvT hZ (hw _ (List.mem_of_getElem? (i := 11) rfl))) (mvT hZ (hw _ (List.mem_of_getElem? (i := 12) rfl))) (mvT hZ (hw _ (List.mem_of_getElem? (i := 13) rfl))) (by decide) (StrChars.Road.backV (W := 1) hZ (fun d hd => hw d (own_words d hd)) (kI := 4) (hw _ (List.mem_of_getElem? (i := 9) rfl)) (cs := ([(nar .char ((p3 &&& (255 : Int32)).toUInt32.toUInt16.toUInt32.toInt32))] : List Int32)) (bs := (([(nar .char ((p3 &&& (255 : Int32)).toUInt32.toUInt16.toUInt32.toInt32))] : List Int32)).map (fun c => c.toInt8.toInt32)) (n := 1) (by omega : n0 ≤ b151) (by omega : n0 ≤ h151.size) A151 F151_value F151_coder Fc156 Fc157 hG1 rfl rfl (by decide) (by decide) hp155 rfl (by decide) (by decide)) (g := (mkF m 101 #[.val (.int p0), .val (.int p1), .val (.int p2), .val (.int p3), .val (.int (p1 &&& (3 : Int32))), .val (.int (0 : Int32)), .val (.ref r_119), .val (.ref b120), .val (.ref b132), .val (.ref b143), .unset, .unset, .unset] [(.ref b143), (.ref b151), (.ref b151)])) rfl (by rw [hml]; rfl) (Steps.refl _) (a := b151) (argsL := [(.ref b143)]) (rest := [(.ref b151)]) (lenOf pd_3 rfl) rfl (by show 2 * 0 + _ ≤ _; exact Nat.le_of_eq rfl) (hb hby at_101) (fun _ _ => ⟨rfl, e151, (by decide : 5 + 1 ≤ _), (by decide : 13 + 1 ≤ _)⟩)
      dsimp only [Pt.U, Pt.locs, Pt.cells, Pt.slots] at X155 l155 y155 z155 st155 hQ155
      subst l155 y155 z155
      obtain ⟨rfl, N155q, K155, P155E, P155C, bv155, kb155, u155a, u155b, u155c, P155V, P155A⟩ := hQ155
      have N155 := Fr.app N148 N155q
      have z158 := K155.1
      have KC159 : Keep h0 T155.heap [] := KC153.trans K155 (allS (Or.inr (by omega)) all0)
      have P155B : Arv Z T155.heap bv155 kb155 .byte (1 : Int32) [(.int ((nar .char ((p3 &&& (255 : Int32)).toUInt32.toUInt16.toUInt32.toInt32))).toInt8.toInt32)] (.int (0 : Int32)) := P155A
      have z160 : @LT.lt Nat _ b151 (Array.size T155.heap) := P155E.lt
      have z161 : @LT.lt Nat _ bv155 (Array.size T155.heap) := P155A.lt
      obtain ⟨T162, h162, X162, e162, E162, A162, D162, -, st162⟩ := newO X155 hx hZ hown (hw _ (List.mem_of_getElem? (i := 37) rfl)) (hw _ (List.mem_of_getElem? (i := 38) rfl)) (hw _ (List.mem_of_getElem? (i := 39) rfl)) rfl (g := (mkF m 106 #[.val (.int p0), .val (.int p1), .val (.int p2), .val (.int p3), .val (.int (p1 &&& (3 : Int32))), .val (.int (0 : Int32)), .val (.ref r_119), .val (.ref b120), .val (.ref b132), .val (.ref b143), .val (.ref b151), .unset, .unset] [])) rfl (hb hby at_106) (by decide) (by decide)
      obtain ⟨b162, g162⟩ : ∃ z, z = T155.heap.size := ⟨_, rfl⟩
      rw [← g162] at A162 D162 st162
      have z163 := E162.1
      have KC164 : Keep h0 h162 [] := KC159.ext E162
      have z165 : @LT.lt Nat _ b162 (Array.size h162) := A162.lt
      have F162_source : Fld Z h162 b162 "com/example/nestor/nestor/core/Occurrence" "source" "Ljava/lang/String;" .null := D162 (Or.inr (hw _ (List.mem_of_getElem? (i := 59) rfl))) (ty := (.object "java/lang/String")) (by decide)
      have F162_line : Fld Z h162 b162 "com/example/nestor/nestor/core/Occurrence" "line" "I" (.int (0 : Int32)) := D162 (Or.inr (hw _ (List.mem_of_getElem? (i := 61) rfl))) (ty := .int) (by decide)
      have F162_kind : Fld Z h162 b162 "com/example/nestor/nestor/core/Occurrence" "kind" "Lcom/example/nestor/nestor/model/UseKind;" .null := D162 (Or.inr (hw _ (List.mem_of_getElem? (i := 63) rfl))) (ty := (.object "com/example/nestor/nestor/model/UseKind")) (by decide)
      have F162_detail : Fld Z h162 b162 "com/example/nestor/nestor/core/Occurrence" "detail" "Ljava/lang/String;" .null := D162 (Or.inr (hw _ (List.mem_of_getElem? (i := 65) rfl))) (ty := (.object "java/lang/String")) (by decide)
      have z167 := congrArg Array.size e162
      obtain ⟨_, _, ⟨T166, L166, k166, n166⟩, -, Y166, hY166, gY166, ⟨Lc166, hQ166, l166, y166, z166⟩, st166⟩ := X162.specialBackS hx (y := (⟨"com/example/nestor/nestor/core/Occurrence", "<init>", "(Ljava/lang/String;ILcom/example/nestor/nestor/model/UseKind;Ljava/lang/String;)V"⟩ : MethodName)) rfl hown (mvT hZ (hw _ (List.mem_of_getElem? (i := 40) rfl))) (mvT hZ (hw _ (List.mem_of_getElem? (i := 41) rfl))) (mvT hZ (hw _ (List.mem_of_getElem? (i := 42) rfl))) (by decide) (backOfS (W := 1) (rm8 l Z a0 hw [] b162 b132 (0 : Int32) r_119 b151 h162 n0 (by omega) A162 F162_source F162_line F162_kind F162_detail (by omega : n0 ≤ b162)) hZ (hw _ (List.mem_of_getElem? (i := 42) rfl)) (hw _ (List.mem_of_getElem? (i := 39) rfl)) (by decide) (by decide)) (g := (mkF m 118 #[.val (.int p0), .val (.int p1), .val (.int p2), .val (.int p3), .val (.int (p1 &&& (3 : Int32))), .val (.int (0 : Int32)), .val (.ref r_119), .val (.ref b120), .val (.ref b132), .val (.ref b143), .val (.ref b151), .unset, .unset] [(.ref b151), (.ref r_119), (.int (0 : Int32)), (.ref b132), (.ref b162), (.ref b162)])) rfl (by rw [hml]; rfl) (Steps.refl _) (a := b162) (argsL := [(.ref b132), (.int (0 : Int32)), (.ref r_119), (.ref b151)]) (rest := [(.ref b162)]) (lenOf pd_4 rfl) rfl (by show 2 * 0 + _ ≤ _; exact Nat.le_of_eq rfl) (hb hby at_118) (fun _ _ => ⟨rfl, e162, (by decide : 7 + 6 ≤ _), (by decide : 18 + 76 ≤ _)⟩)
      dsimp only [Pt.U, Pt.locs, Pt.cells, Pt.slots] at Y166 hY166 gY166 l166 y166 z166 st166 hQ166
      subst l166 y166 z166
      obtain ⟨X166, hS166, hZ166, hw166⟩ := rebS (s := s) (vm0 := s.vm) hS0 (by omega : h0.size ≤ T162.heap.size) Y166 hY166 gY166 hZ hown
      obtain ⟨rfl, N166q, K166, P166_0, P166_1⟩ := hQ166
      have N166 := Fr.app N155 N166q
      have z168 := K166.1
      have KC169 : Keep h0 T166.heap [] := KC164.trans K166 (allS (Or.inr (by omega)) all0)
      have z170 : @LT.lt Nat _ b162 (Array.size T166.heap) := P166_0.lt
      have z171 : @LT.lt Nat _ b162 (Array.size T166.heap) := P166_1.lt
      obtain ⟨cq172, kq172, qa172, qb172, qc172⟩ := isOf hZ166 rfl P166_0
      obtain ⟨_, _, ⟨T172, L172, k172, n172⟩, -, X172, ⟨Lc172, hQ172, l172, y172, z172⟩, st172⟩ := X166.virtualBack hx (y := (⟨"com/example/nestor/nestor/core/Occurrence", "hasLine", "()Z"⟩ : MethodName)) (z := (⟨"com/example/nestor/nestor/core/Occurrence", "hasLine", "()Z"⟩ : MethodName)) hw166 (mvT hZ166 (hw _ (List.mem_of_getElem? (i := 66) rfl))) (mvT hZ166 (hw _ (List.mem_of_getElem? (i := 67) rfl))) (notFace_of_selects (args := #[]) (mvT hZ166 (hw _ (List.mem_of_getElem? (i := 69) rfl)))) (mvT hZ166 (hw _ (List.mem_of_getElem? (i := 69) rfl))) (mvT hZ166 (hw _ (List.mem_of_getElem? (i := 68) rfl))) (by decide) (backOf (W := 0) (rm11 l Z a0 hw [] b162 (0 : Int32) T166.heap n0 (by omega) P166_1) hZ166 (hw _ (List.mem_of_getElem? (i := 70) rfl)) (hw _ (List.mem_of_getElem? (i := 39) rfl)) (by decide) (by decide)) qa172 qc172 (g := (mkF m 144 #[.val (.int p0), .val (.int p1), .val (.int p2), .val (.int p3), .val (.int (p1 &&& (3 : Int32))), .val (.int (0 : Int32)), .val (.ref r_119), .val (.ref b120), .val (.ref b132), .val (.ref b143), .val (.ref b151), .val (.ref b162), .val (.int (1 : Int32))] [(.ref b162)])) rfl (by rw [hml]; rfl) (Steps.refl _) (argsL := []) (rest := []) (lenOf pd_5 rfl) rfl (by show 2 * 0 + _ ≤ _; exact Nat.le_of_eq rfl) (hb hby at_144) (fun _ _ => ⟨rfl, rfl, (by decide : 13 + 0 ≤ _), (by decide : 94 + 0 ≤ _)⟩)
      dsimp only [Pt.U, Pt.locs, Pt.cells, Pt.slots] at X172 l172 y172 z172 st172 hQ172
      subst l172 y172 z172
      obtain ⟨rfl, N172q, e172⟩ := hQ172
      have N172 := Fr.app N166 N172q
      obtain ⟨cq173, kq173, qa173, qb173, qc173⟩ := isOf hZ166 e172 P166_0
      obtain ⟨_, _, ⟨T173, L173, k173, n173⟩, -, X173, ⟨Lc173, hQ173, l173, y173, z173⟩, st173⟩ := X172.virtualBack hx (y := (⟨"com/example/nestor/nestor/core/Occurrence", "line", "()I"⟩ : MethodName)) (z := (⟨"com/example/nestor/nestor/core/Occurrence", "line", "()I"⟩ : MethodName)) hw166 (mvT hZ166 (hw _ (List.mem_of_getElem? (i := 71) rfl))) (mvT hZ166 (hw _ (List.mem_of_getElem? (i := 72) rfl))) (notFace_of_selects (args := #[]) (mvT hZ166 (hw _ (List.mem_of_getElem? (i := 74) rfl)))) (mvT hZ166 (hw _ (List.mem_of_getElem? (i := 74) rfl))) (mvT hZ166 (hw _ (List.mem_of_getElem? (i := 73) rfl))) (by decide) (backOf (W := 0) (rm12 l Z a0 hw [] b162 (0 : Int32) T166.heap n0 (by omega) P166_1) hZ166 (hw _ (List.mem_of_getElem? (i := 75) rfl)) (hw _ (List.mem_of_getElem? (i := 39) rfl)) (by decide) (by decide)) qa173 qc173 (g := (mkF m 154 #[.val (.int p0), .val (.int p1), .val (.int p2), .val (.int p3), .val (.int (p1 &&& (3 : Int32))), .val (.int (0 : Int32)), .val (.ref r_119), .val (.ref b120), .val (.ref b132), .val (.ref b143), .val (.ref b151), .val (.ref b162), .val (.int (1 : Int32))] [(.ref b162)])) rfl (by rw [hml]; rfl) (Steps.refl _) (argsL := []) (rest := []) (lenOf pd_6 rfl) rfl (by show 2 * 0 + _ ≤ _; exact Nat.le_of_eq rfl) (hb hby at_154) (fun _ _ => ⟨rfl, e172, (by decide : 13 + 0 ≤ _), (by decide : 94 + 0 ≤ _)⟩)
      dsimp only [Pt.U, Pt.locs, Pt.cells, Pt.slots] at X173 l173 y173 z173 st173 hQ173
      subst l173 y173 z173
      obtain ⟨rfl, N173q, e173⟩ := hQ173
      have N173 := Fr.app N172 N173q
      have z174 := congrArg Array.size e173
      obtain ⟨fs, hr, hrun, hended, rE1, rE2, rE3, rE4⟩ := leaveW (s := s) (vm₁ := T166.vm) X173 hS166 (by omega : T166.heap.size ≤ T173.heap.size) (v := some (.int (1 : Int32))) (fun h => by rw [Bd.returns] at h; cases h)
      refine ⟨_, _, pre117 _ ?_, hrun, hended, _, _, rfl, ?_, rE1, rE2, rE3, rE4.mono (by decide) (by decide)⟩
      · show Steps p.tables e below (s₁.setTop (mkF m 19 #[.val (.int p0), .val (.int p1), .val (.int p2), .val (.int p3), .val (.int (p1 &&& (3 : Int32))), .unset, .unset, .unset, .unset, .unset, .unset, .unset, .unset] [(.int (1 : Int32)), (.int (p1 &&& (3 : Int32)))])) _
        refine XS.icmpNo X0.here hx rfl (hb hby at_19) rfl (teq (hc118 : (p1 &&& (3 : Int32)) = (1 : Int32))).2 ?_
        show Steps p.tables e below (s₁.setTop (mkF m 22 #[.val (.int p0), .val (.int p1), .val (.int p2), .val (.int p3), .val (.int (p1 &&& (3 : Int32))), .unset, .unset, .unset, .unset, .unset, .unset, .unset, .unset] [])) _
        refine XS.iconst X0.here hx rfl (hb hby at_22) ?_
        show Steps p.tables e below (s₁.setTop (mkF m 23 #[.val (.int p0), .val (.int p1), .val (.int p2), .val (.int p3), .val (.int (p1 &&& (3 : Int32))), .unset, .unset, .unset, .unset, .unset, .unset, .unset, .unset] [(.int (0 : Int32))])) _
        refine XS.istore X0.here hx rfl (hb hby at_23) rfl (l' := #[.val (.int p0), .val (.int p1), .val (.int p2), .val (.int p3), .val (.int (p1 &&& (3 : Int32))), .val (.int (0 : Int32)), .unset, .unset, .unset, .unset, .unset, .unset, .unset]) rfl ?_
        show Steps p.tables e below (s₁.setTop (mkF m 25 #[.val (.int p0), .val (.int p1), .val (.int p2), .val (.int p3), .val (.int (p1 &&& (3 : Int32))), .val (.int (0 : Int32)), .unset, .unset, .unset, .unset, .unset, .unset, .unset] [])) _
        refine XS.goto X0.here hx rfl (pc0 := 25) (pc' := 31) rfl (hb hby at_25) (by decide) (by decide) ?_
        show Steps p.tables e below (s₁.setTop (mkF m 31 #[.val (.int p0), .val (.int p1), .val (.int p2), .val (.int p3), .val (.int (p1 &&& (3 : Int32))), .val (.int (0 : Int32)), .unset, .unset, .unset, .unset, .unset, .unset, .unset] [])) _
        refine XS.iloadN X0.here hx rfl (hb hby at_31) rfl ?_
        show Steps p.tables e below (s₁.setTop (mkF m 32 #[.val (.int p0), .val (.int p1), .val (.int p2), .val (.int p3), .val (.int (p1 &&& (3 : Int32))), .val (.int (0 : Int32)), .unset, .unset, .unset, .unset, .unset, .unset, .unset] [(.int p1)])) _
        refine XS.iconst X0.here hx rfl (hb hby at_32) ?_
        show Steps p.tables e below (s₁.setTop (mkF m 33 #[.val (.int p0), .val (.int p1), .val (.int p2), .val (.int p3), .val (.int (p1 &&& (3 : Int32))), .val (.int (0 : Int32)), .unset, .unset, .unset, .unset, .unset, .unset, .unset] [(.int (2 : Int32)), (.int p1)])) _
        refine XS.iushr X0.here hx rfl (hb hby at_33) rfl ?_
        show Steps p.tables e below (s₁.setTop (mkF m 34 #[.val (.int p0), .val (.int p1), .val (.int p2), .val (.int p3), .val (.int (p1 &&& (3 : Int32))), .val (.int (0 : Int32)), .unset, .unset, .unset, .unset, .unset, .unset, .unset] [(.int ((p1.toUInt32 >>> ((2 : Int32) &&& 31).toUInt32).toInt32))])) _
        refine XS.iconst X0.here hx rfl (hb hby at_34) ?_
        show Steps p.tables e below (s₁.setTop (mkF m 35 #[.val (.int p0), .val (.int p1), .val (.int p2), .val (.int p3), .val (.int (p1 &&& (3 : Int32))), .val (.int (0 : Int32)), .unset, .unset, .unset, .unset, .unset, .unset, .unset] [(.int (3 : Int32)), (.int ((p1.toUInt32 >>> ((2 : Int32) &&& 31).toUInt32).toInt32))])) _
        refine XS.iand X0.here hx rfl (hb hby at_35) rfl ?_
        show Steps p.tables e below (s₁.setTop (mkF m 36 #[.val (.int p0), .val (.int p1), .val (.int p2), .val (.int p3), .val (.int (p1 &&& (3 : Int32))), .val (.int (0 : Int32)), .unset, .unset, .unset, .unset, .unset, .unset, .unset] [(.int (((p1.toUInt32 >>> ((2 : Int32) &&& 31).toUInt32).toInt32) &&& (3 : Int32)))])) _
        refine st119 _ ?_
        show Steps p.tables e below (T119.setTop (mkF m 39 #[.val (.int p0), .val (.int p1), .val (.int p2), .val (.int p3), .val (.int (p1 &&& (3 : Int32))), .val (.int (0 : Int32)), .unset, .unset, .unset, .unset, .unset, .unset, .unset] [(.ref r_119)])) _
        refine XS.astore X119.here hx rfl (hb hby at_39) rfl rfl (l' := #[.val (.int p0), .val (.int p1), .val (.int p2), .val (.int p3), .val (.int (p1 &&& (3 : Int32))), .val (.int (0 : Int32)), .val (.ref r_119), .unset, .unset, .unset, .unset, .unset, .unset]) rfl ?_
        show Steps p.tables e below (T119.setTop (mkF m 41 #[.val (.int p0), .val (.int p1), .val (.int p2), .val (.int p3), .val (.int (p1 &&& (3 : Int32))), .val (.int (0 : Int32)), .val (.ref r_119), .unset, .unset, .unset, .unset, .unset, .unset] [])) _
        refine XS.iconst X119.here hx rfl (hb hby at_41) ?_
        show Steps p.tables e below (T119.setTop (mkF m 42 #[.val (.int p0), .val (.int p1), .val (.int p2), .val (.int p3), .val (.int (p1 &&& (3 : Int32))), .val (.int (0 : Int32)), .val (.ref r_119), .unset, .unset, .unset, .unset, .unset, .unset] [(.int (2 : Int32))])) _
        refine st120 _ ?_
        show Steps p.tables e below (T120.setTop (mkF m 44 #[.val (.int p0), .val (.int p1), .val (.int p2), .val (.int p3), .val (.int (p1 &&& (3 : Int32))), .val (.int (0 : Int32)), .val (.ref r_119), .unset, .unset, .unset, .unset, .unset, .unset] [(.ref b120)])) _
        refine XS.astore X120.here hx rfl (hb hby at_44) rfl rfl (l' := #[.val (.int p0), .val (.int p1), .val (.int p2), .val (.int p3), .val (.int (p1 &&& (3 : Int32))), .val (.int (0 : Int32)), .val (.ref r_119), .val (.ref b120), .unset, .unset, .unset, .unset, .unset]) rfl ?_
        show Steps p.tables e below (T120.setTop (mkF m 46 #[.val (.int p0), .val (.int p1), .val (.int p2), .val (.int p3), .val (.int (p1 &&& (3 : Int32))), .val (.int (0 : Int32)), .val (.ref r_119), .val (.ref b120), .unset, .unset, .unset, .unset, .unset] [])) _
        refine XS.aload X120.here hx rfl (hb hby at_46) rfl rfl ?_
        show Steps p.tables e below (T120.setTop (mkF m 48 #[.val (.int p0), .val (.int p1), .val (.int p2), .val (.int p3), .val (.int (p1 &&& (3 : Int32))), .val (.int (0 : Int32)), .val (.ref r_119), .val (.ref b120), .unset, .unset, .unset, .unset, .unset] [(.ref b120)])) _
        refine XS.iconst X120.here hx rfl (hb hby at_48) ?_
        show Steps p.tables e below (T120.setTop (mkF m 49 #[.val (.int p0), .val (.int p1), .val (.int p2), .val (.int p3), .val (.int (p1 &&& (3 : Int32))), .val (.int (0 : Int32)), .val (.ref r_119), .val (.ref b120), .unset, .unset, .unset, .unset, .unset] [(.int (0 : Int32)), (.ref b120)])) _
        refine XS.iloadN X120.here hx rfl (hb hby at_49) rfl ?_
        show Steps p.tables e below (T120.setTop (mkF m 50 #[.val (.int p0), .val (.int p1), .val (.int p2), .val (.int p3), .val (.int (p1 &&& (3 : Int32))), .val (.int (0 : Int32)), .val (.ref r_119), .val (.ref b120), .unset, .unset, .unset, .unset, .unset] [(.int p2), (.int (0 : Int32)), (.ref b120)])) _
        refine XS.sipush X120.here hx rfl (hb hby at_50) ?_
        show Steps p.tables e below (T120.setTop (mkF m 53 #[.val (.int p0), .val (.int p1), .val (.int p2), .val (.int p3), .val (.int (p1 &&& (3 : Int32))), .val (.int (0 : Int32)), .val (.ref r_119), .val (.ref b120), .unset, .unset, .unset, .unset, .unset] [(.int (255 : Int32)), (.int p2), (.int (0 : Int32)), (.ref b120)])) _
        refine XS.iand X120.here hx rfl (hb hby at_53) rfl ?_
        show Steps p.tables e below (T120.setTop (mkF m 54 #[.val (.int p0), .val (.int p1), .val (.int p2), .val (.int p3), .val (.int (p1 &&& (3 : Int32))), .val (.int (0 : Int32)), .val (.ref r_119), .val (.ref b120), .unset, .unset, .unset, .unset, .unset] [(.int (p2 &&& (255 : Int32))), (.int (0 : Int32)), (.ref b120)])) _
        refine XS.i2c X120.here hx rfl (hb hby at_54) rfl ?_
        show Steps p.tables e below (T120.setTop (mkF m 55 #[.val (.int p0), .val (.int p1), .val (.int p2), .val (.int p3), .val (.int (p1 &&& (3 : Int32))), .val (.int (0 : Int32)), .val (.ref r_119), .val (.ref b120), .unset, .unset, .unset, .unset, .unset] [(.int ((p2 &&& (255 : Int32)).toUInt32.toUInt16.toUInt32.toInt32)), (.int (0 : Int32)), (.ref b120)])) _
        refine st125 _ ?_
        show Steps p.tables e below (T125.setTop (mkF m 56 #[.val (.int p0), .val (.int p1), .val (.int p2), .val (.int p3), .val (.int (p1 &&& (3 : Int32))), .val (.int (0 : Int32)), .val (.ref r_119), .val (.ref b120), .unset, .unset, .unset, .unset, .unset] [])) _
        refine XS.aload X125.here hx rfl (hb hby at_56) rfl rfl ?_
        show Steps p.tables e below (T125.setTop (mkF m 58 #[.val (.int p0), .val (.int p1), .val (.int p2), .val (.int p3), .val (.int (p1 &&& (3 : Int32))), .val (.int (0 : Int32)), .val (.ref r_119), .val (.ref b120), .unset, .unset, .unset, .unset, .unset] [(.ref b120)])) _
        refine XS.iconst X125.here hx rfl (hb hby at_58) ?_
        show Steps p.tables e below (T125.setTop (mkF m 59 #[.val (.int p0), .val (.int p1), .val (.int p2), .val (.int p3), .val (.int (p1 &&& (3 : Int32))), .val (.int (0 : Int32)), .val (.ref r_119), .val (.ref b120), .unset, .unset, .unset, .unset, .unset] [(.int (1 : Int32)), (.ref b120)])) _
        refine XS.iloadN X125.here hx rfl (hb hby at_59) rfl ?_
        show Steps p.tables e below (T125.setTop (mkF m 60 #[.val (.int p0), .val (.int p1), .val (.int p2), .val (.int p3), .val (.int (p1 &&& (3 : Int32))), .val (.int (0 : Int32)), .val (.ref r_119), .val (.ref b120), .unset, .unset, .unset, .unset, .unset] [(.int p2), (.int (1 : Int32)), (.ref b120)])) _
        refine XS.bipush X125.here hx rfl (hb hby at_60) ?_
        show Steps p.tables e below (T125.setTop (mkF m 62 #[.val (.int p0), .val (.int p1), .val (.int p2), .val (.int p3), .val (.int (p1 &&& (3 : Int32))), .val (.int (0 : Int32)), .val (.ref r_119), .val (.ref b120), .unset, .unset, .unset, .unset, .unset] [(.int (8 : Int32)), (.int p2), (.int (1 : Int32)), (.ref b120)])) _
        refine XS.iushr X125.here hx rfl (hb hby at_62) rfl ?_
        show Steps p.tables e below (T125.setTop (mkF m 63 #[.val (.int p0), .val (.int p1), .val (.int p2), .val (.int p3), .val (.int (p1 &&& (3 : Int32))), .val (.int (0 : Int32)), .val (.ref r_119), .val (.ref b120), .unset, .unset, .unset, .unset, .unset] [(.int ((p2.toUInt32 >>> ((8 : Int32) &&& 31).toUInt32).toInt32)), (.int (1 : Int32)), (.ref b120)])) _
        refine XS.sipush X125.here hx rfl (hb hby at_63) ?_
        show Steps p.tables e below (T125.setTop (mkF m 66 #[.val (.int p0), .val (.int p1), .val (.int p2), .val (.int p3), .val (.int (p1 &&& (3 : Int32))), .val (.int (0 : Int32)), .val (.ref r_119), .val (.ref b120), .unset, .unset, .unset, .unset, .unset] [(.int (255 : Int32)), (.int ((p2.toUInt32 >>> ((8 : Int32) &&& 31).toUInt32).toInt32)), (.int (1 : Int32)), (.ref b120)])) _
        refine XS.iand X125.here hx rfl (hb hby at_66) rfl ?_
        show Steps p.tables e below (T125.setTop (mkF m 67 #[.val (.int p0), .val (.int p1), .val (.int p2), .val (.int p3), .val (.int (p1 &&& (3 : Int32))), .val (.int (0 : Int32)), .val (.ref r_119), .val (.ref b120), .unset, .unset, .unset, .unset, .unset] [(.int (((p2.toUInt32 >>> ((8 : Int32) &&& 31).toUInt32).toInt32) &&& (255 : Int32))), (.int (1 : Int32)), (.ref b120)])) _
        refine XS.i2c X125.here hx rfl (hb hby at_67) rfl ?_
        show Steps p.tables e below (T125.setTop (mkF m 68 #[.val (.int p0), .val (.int p1), .val (.int p2), .val (.int p3), .val (.int (p1 &&& (3 : Int32))), .val (.int (0 : Int32)), .val (.ref r_119), .val (.ref b120), .unset, .unset, .unset, .unset, .unset] [(.int ((((p2.toUInt32 >>> ((8 : Int32) &&& 31).toUInt32).toInt32) &&& (255 : Int32)).toUInt32.toUInt16.toUInt32.toInt32)), (.int (1 : Int32)), (.ref b120)])) _
        refine st129 _ ?_
        show Steps p.tables e below (T129.setTop (mkF m 69 #[.val (.int p0), .val (.int p1), .val (.int p2), .val (.int p3), .val (.int (p1 &&& (3 : Int32))), .val (.int (0 : Int32)), .val (.ref r_119), .val (.ref b120), .unset, .unset, .unset, .unset, .unset] [])) _
        refine st132 _ ?_
        show Steps p.tables e below (T132.setTop (mkF m 72 #[.val (.int p0), .val (.int p1), .val (.int p2), .val (.int p3), .val (.int (p1 &&& (3 : Int32))), .val (.int (0 : Int32)), .val (.ref r_119), .val (.ref b120), .unset, .unset, .unset, .unset, .unset] [(.ref b132)])) _
        refine XS.dup X132.here hx rfl (hb hby at_72) rfl rfl ?_
        show Steps p.tables e below (T132.setTop (mkF m 73 #[.val (.int p0), .val (.int p1), .val (.int p2), .val (.int p3), .val (.int (p1 &&& (3 : Int32))), .val (.int (0 : Int32)), .val (.ref r_119), .val (.ref b120), .unset, .unset, .unset, .unset, .unset] [(.ref b132), (.ref b132)])) _
        refine XS.aload X132.here hx rfl (hb hby at_73) rfl rfl ?_
        show Steps p.tables e below (T132.setTop (mkF m 75 #[.val (.int p0), .val (.int p1), .val (.int p2), .val (.int p3), .val (.int (p1 &&& (3 : Int32))), .val (.int (0 : Int32)), .val (.ref r_119), .val (.ref b120), .unset, .unset, .unset, .unset, .unset] [(.ref b120), (.ref b132), (.ref b132)])) _
        refine st136.trans ?_
        show Steps p.tables e below (T136.setTop (mkF m 78 #[.val (.int p0), .val (.int p1), .val (.int p2), .val (.int p3), .val (.int (p1 &&& (3 : Int32))), .val (.int (0 : Int32)), .val (.ref r_119), .val (.ref b120), .unset, .unset, .unset, .unset, .unset] [(.ref b132)])) _
        refine XS.astore X136.here hx rfl (hb hby at_78) rfl rfl (l' := #[.val (.int p0), .val (.int p1), .val (.int p2), .val (.int p3), .val (.int (p1 &&& (3 : Int32))), .val (.int (0 : Int32)), .val (.ref r_119), .val (.ref b120), .val (.ref b132), .unset, .unset, .unset, .unset]) rfl ?_
        show Steps p.tables e below (T136.setTop (mkF m 80 #[.val (.int p0), .val (.int p1), .val (.int p2), .val (.int p3), .val (.int (p1 &&& (3 : Int32))), .val (.int (0 : Int32)), .val (.ref r_119), .val (.ref b120), .val (.ref b132), .unset, .unset, .unset, .unset] [])) _
        refine XS.iconst X136.here hx rfl (hb hby at_80) ?_
        show Steps p.tables e below (T136.setTop (mkF m 81 #[.val (.int p0), .val (.int p1), .val (.int p2), .val (.int p3), .val (.int (p1 &&& (3 : Int32))), .val (.int (0 : Int32)), .val (.ref r_119), .val (.ref b120), .val (.ref b132), .unset, .unset, .unset, .unset] [(.int (1 : Int32))])) _
        refine st143 _ ?_
        show Steps p.tables e below (T143.setTop (mkF m 83 #[.val (.int p0), .val (.int p1), .val (.int p2), .val (.int p3), .val (.int (p1 &&& (3 : Int32))), .val (.int (0 : Int32)), .val (.ref r_119), .val (.ref b120), .val (.ref b132), .unset, .unset, .unset, .unset] [(.ref b143)])) _
        refine XS.astore X143.here hx rfl (hb hby at_83) rfl rfl (l' := #[.val (.int p0), .val (.int p1), .val (.int p2), .val (.int p3), .val (.int (p1 &&& (3 : Int32))), .val (.int (0 : Int32)), .val (.ref r_119), .val (.ref b120), .val (.ref b132), .val (.ref b143), .unset, .unset, .unset]) rfl ?_
        show Steps p.tables e below (T143.setTop (mkF m 85 #[.val (.int p0), .val (.int p1), .val (.int p2), .val (.int p3), .val (.int (p1 &&& (3 : Int32))), .val (.int (0 : Int32)), .val (.ref r_119), .val (.ref b120), .val (.ref b132), .val (.ref b143), .unset, .unset, .unset] [])) _
        refine XS.aload X143.here hx rfl (hb hby at_85) rfl rfl ?_
        show Steps p.tables e below (T143.setTop (mkF m 87 #[.val (.int p0), .val (.int p1), .val (.int p2), .val (.int p3), .val (.int (p1 &&& (3 : Int32))), .val (.int (0 : Int32)), .val (.ref r_119), .val (.ref b120), .val (.ref b132), .val (.ref b143), .unset, .unset, .unset] [(.ref b143)])) _
        refine XS.iconst X143.here hx rfl (hb hby at_87) ?_
        show Steps p.tables e below (T143.setTop (mkF m 88 #[.val (.int p0), .val (.int p1), .val (.int p2), .val (.int p3), .val (.int (p1 &&& (3 : Int32))), .val (.int (0 : Int32)), .val (.ref r_119), .val (.ref b120), .val (.ref b132), .val (.ref b143), .unset, .unset, .unset] [(.int (0 : Int32)), (.ref b143)])) _
        refine XS.iloadN X143.here hx rfl (hb hby at_88) rfl ?_
        show Steps p.tables e below (T143.setTop (mkF m 89 #[.val (.int p0), .val (.int p1), .val (.int p2), .val (.int p3), .val (.int (p1 &&& (3 : Int32))), .val (.int (0 : Int32)), .val (.ref r_119), .val (.ref b120), .val (.ref b132), .val (.ref b143), .unset, .unset, .unset] [(.int p3), (.int (0 : Int32)), (.ref b143)])) _
        refine XS.sipush X143.here hx rfl (hb hby at_89) ?_
        show Steps p.tables e below (T143.setTop (mkF m 92 #[.val (.int p0), .val (.int p1), .val (.int p2), .val (.int p3), .val (.int (p1 &&& (3 : Int32))), .val (.int (0 : Int32)), .val (.ref r_119), .val (.ref b120), .val (.ref b132), .val (.ref b143), .unset, .unset, .unset] [(.int (255 : Int32)), (.int p3), (.int (0 : Int32)), (.ref b143)])) _
        refine XS.iand X143.here hx rfl (hb hby at_92) rfl ?_
        show Steps p.tables e below (T143.setTop (mkF m 93 #[.val (.int p0), .val (.int p1), .val (.int p2), .val (.int p3), .val (.int (p1 &&& (3 : Int32))), .val (.int (0 : Int32)), .val (.ref r_119), .val (.ref b120), .val (.ref b132), .val (.ref b143), .unset, .unset, .unset] [(.int (p3 &&& (255 : Int32))), (.int (0 : Int32)), (.ref b143)])) _
        refine XS.i2c X143.here hx rfl (hb hby at_93) rfl ?_
        show Steps p.tables e below (T143.setTop (mkF m 94 #[.val (.int p0), .val (.int p1), .val (.int p2), .val (.int p3), .val (.int (p1 &&& (3 : Int32))), .val (.int (0 : Int32)), .val (.ref r_119), .val (.ref b120), .val (.ref b132), .val (.ref b143), .unset, .unset, .unset] [(.int ((p3 &&& (255 : Int32)).toUInt32.toUInt16.toUInt32.toInt32)), (.int (0 : Int32)), (.ref b143)])) _
        refine st148 _ ?_
        show Steps p.tables e below (T148.setTop (mkF m 95 #[.val (.int p0), .val (.int p1), .val (.int p2), .val (.int p3), .val (.int (p1 &&& (3 : Int32))), .val (.int (0 : Int32)), .val (.ref r_119), .val (.ref b120), .val (.ref b132), .val (.ref b143), .unset, .unset, .unset] [])) _
        refine st151 _ ?_
        show Steps p.tables e below (T151.setTop (mkF m 98 #[.val (.int p0), .val (.int p1), .val (.int p2), .val (.int p3), .val (.int (p1 &&& (3 : Int32))), .val (.int (0 : Int32)), .val (.ref r_119), .val (.ref b120), .val (.ref b132), .val (.ref b143), .unset, .unset, .unset] [(.ref b151)])) _
        refine XS.dup X151.here hx rfl (hb hby at_98) rfl rfl ?_
        show Steps p.tables e below (T151.setTop (mkF m 99 #[.val (.int p0), .val (.int p1), .val (.int p2), .val (.int p3), .val (.int (p1 &&& (3 : Int32))), .val (.int (0 : Int32)), .val (.ref r_119), .val (.ref b120), .val (.ref b132), .val (.ref b143), .unset, .unset, .unset] [(.ref b151), (.ref b151)])) _
        refine XS.aload X151.here hx rfl (hb hby at_99) rfl rfl ?_
        show Steps p.tables e below (T151.setTop (mkF m 101 #[.val (.int p0), .val (.int p1), .val (.int p2), .val (.int p3), .val (.int (p1 &&& (3 : Int32))), .val (.int (0 : Int32)), .val (.ref r_119), .val (.ref b120), .val (.ref b132), .val (.ref b143), .unset, .unset, .unset] [(.ref b143), (.ref b151), (.ref b151)])) _
        refine st155.trans ?_
        show Steps p.tables e below (T155.setTop (mkF m 104 #[.val (.int p0), .val (.int p1), .val (.int p2), .val (.int p3), .val (.int (p1 &&& (3 : Int32))), .val (.int (0 : Int32)), .val (.ref r_119), .val (.ref b120), .val (.ref b132), .val (.ref b143), .unset, .unset, .unset] [(.ref b151)])) _
        refine XS.astore X155.here hx rfl (hb hby at_104) rfl rfl (l' := #[.val (.int p0), .val (.int p1), .val (.int p2), .val (.int p3), .val (.int (p1 &&& (3 : Int32))), .val (.int (0 : Int32)), .val (.ref r_119), .val (.ref b120), .val (.ref b132), .val (.ref b143), .val (.ref b151), .unset, .unset]) rfl ?_
        show Steps p.tables e below (T155.setTop (mkF m 106 #[.val (.int p0), .val (.int p1), .val (.int p2), .val (.int p3), .val (.int (p1 &&& (3 : Int32))), .val (.int (0 : Int32)), .val (.ref r_119), .val (.ref b120), .val (.ref b132), .val (.ref b143), .val (.ref b151), .unset, .unset] [])) _
        refine st162 _ ?_
        show Steps p.tables e below (T162.setTop (mkF m 109 #[.val (.int p0), .val (.int p1), .val (.int p2), .val (.int p3), .val (.int (p1 &&& (3 : Int32))), .val (.int (0 : Int32)), .val (.ref r_119), .val (.ref b120), .val (.ref b132), .val (.ref b143), .val (.ref b151), .unset, .unset] [(.ref b162)])) _
        refine XS.dup X162.here hx rfl (hb hby at_109) rfl rfl ?_
        show Steps p.tables e below (T162.setTop (mkF m 110 #[.val (.int p0), .val (.int p1), .val (.int p2), .val (.int p3), .val (.int (p1 &&& (3 : Int32))), .val (.int (0 : Int32)), .val (.ref r_119), .val (.ref b120), .val (.ref b132), .val (.ref b143), .val (.ref b151), .unset, .unset] [(.ref b162), (.ref b162)])) _
        refine XS.aload X162.here hx rfl (hb hby at_110) rfl rfl ?_
        show Steps p.tables e below (T162.setTop (mkF m 112 #[.val (.int p0), .val (.int p1), .val (.int p2), .val (.int p3), .val (.int (p1 &&& (3 : Int32))), .val (.int (0 : Int32)), .val (.ref r_119), .val (.ref b120), .val (.ref b132), .val (.ref b143), .val (.ref b151), .unset, .unset] [(.ref b132), (.ref b162), (.ref b162)])) _
        refine XS.iload X162.here hx rfl (hb hby at_112) rfl ?_
        show Steps p.tables e below (T162.setTop (mkF m 114 #[.val (.int p0), .val (.int p1), .val (.int p2), .val (.int p3), .val (.int (p1 &&& (3 : Int32))), .val (.int (0 : Int32)), .val (.ref r_119), .val (.ref b120), .val (.ref b132), .val (.ref b143), .val (.ref b151), .unset, .unset] [(.int (0 : Int32)), (.ref b132), (.ref b162), (.ref b162)])) _
        refine XS.aload X162.here hx rfl (hb hby at_114) rfl rfl ?_
        show Steps p.tables e below (T162.setTop (mkF m 116 #[.val (.int p0), .val (.int p1), .val (.int p2), .val (.int p3), .val (.int (p1 &&& (3 : Int32))), .val (.int (0 : Int32)), .val (.ref r_119), .val (.ref b120), .val (.ref b132), .val (.ref b143), .val (.ref b151), .unset, .unset] [(.ref r_119), (.int (0 : Int32)), (.ref b132), (.ref b162), (.ref b162)])) _
        refine XS.aload X162.here hx rfl (hb hby at_116) rfl rfl ?_
        show Steps p.tables e below (T162.setTop (mkF m 118 #[.val (.int p0), .val (.int p1), .val (.int p2), .val (.int p3), .val (.int (p1 &&& (3 : Int32))), .val (.int (0 : Int32)), .val (.ref r_119), .val (.ref b120), .val (.ref b132), .val (.ref b143), .val (.ref b151), .unset, .unset] [(.ref b151), (.ref r_119), (.int (0 : Int32)), (.ref b132), (.ref b162), (.ref b162)])) _
        refine st166.trans ?_
        show Steps p.tables e below (T166.setTop (mkF m 121 #[.val (.int p0), .val (.int p1), .val (.int p2), .val (.int p3), .val (.int (p1 &&& (3 : Int32))), .val (.int (0 : Int32)), .val (.ref r_119), .val (.ref b120), .val (.ref b132), .val (.ref b143), .val (.ref b151), .unset, .unset] [(.ref b162)])) _
        refine XS.astore X166.here hx rfl (hb hby at_121) rfl rfl (l' := #[.val (.int p0), .val (.int p1), .val (.int p2), .val (.int p3), .val (.int (p1 &&& (3 : Int32))), .val (.int (0 : Int32)), .val (.ref r_119), .val (.ref b120), .val (.ref b132), .val (.ref b143), .val (.ref b151), .val (.ref b162), .unset]) rfl ?_
        show Steps p.tables e below (T166.setTop (mkF m 123 #[.val (.int p0), .val (.int p1), .val (.int p2), .val (.int p3), .val (.int (p1 &&& (3 : Int32))), .val (.int (0 : Int32)), .val (.ref r_119), .val (.ref b120), .val (.ref b132), .val (.ref b143), .val (.ref b151), .val (.ref b162), .unset] [])) _
        refine XS.iload X166.here hx rfl (hb hby at_123) rfl ?_
        show Steps p.tables e below (T166.setTop (mkF m 125 #[.val (.int p0), .val (.int p1), .val (.int p2), .val (.int p3), .val (.int (p1 &&& (3 : Int32))), .val (.int (0 : Int32)), .val (.ref r_119), .val (.ref b120), .val (.ref b132), .val (.ref b143), .val (.ref b151), .val (.ref b162), .unset] [(.int (0 : Int32))])) _
        refine XS.iconst X166.here hx rfl (hb hby at_125) ?_
        show Steps p.tables e below (T166.setTop (mkF m 126 #[.val (.int p0), .val (.int p1), .val (.int p2), .val (.int p3), .val (.int (p1 &&& (3 : Int32))), .val (.int (0 : Int32)), .val (.ref r_119), .val (.ref b120), .val (.ref b132), .val (.ref b143), .val (.ref b151), .val (.ref b162), .unset] [(.int (-1 : Int32)), (.int (0 : Int32))])) _
        refine XS.icmpNo X166.here hx rfl (hb hby at_126) rfl (flt (by decide : ¬ ((0 : Int32) < (-1 : Int32)))).1 ?_
        show Steps p.tables e below (T166.setTop (mkF m 129 #[.val (.int p0), .val (.int p1), .val (.int p2), .val (.int p3), .val (.int (p1 &&& (3 : Int32))), .val (.int (0 : Int32)), .val (.ref r_119), .val (.ref b120), .val (.ref b132), .val (.ref b143), .val (.ref b151), .val (.ref b162), .unset] [])) _
        refine XS.iload X166.here hx rfl (hb hby at_129) rfl ?_
        show Steps p.tables e below (T166.setTop (mkF m 131 #[.val (.int p0), .val (.int p1), .val (.int p2), .val (.int p3), .val (.int (p1 &&& (3 : Int32))), .val (.int (0 : Int32)), .val (.ref r_119), .val (.ref b120), .val (.ref b132), .val (.ref b143), .val (.ref b151), .val (.ref b162), .unset] [(.int (0 : Int32))])) _
        refine XS.iconst X166.here hx rfl (hb hby at_131) ?_
        show Steps p.tables e below (T166.setTop (mkF m 132 #[.val (.int p0), .val (.int p1), .val (.int p2), .val (.int p3), .val (.int (p1 &&& (3 : Int32))), .val (.int (0 : Int32)), .val (.ref r_119), .val (.ref b120), .val (.ref b132), .val (.ref b143), .val (.ref b151), .val (.ref b162), .unset] [(.int (-1 : Int32)), (.int (0 : Int32))])) _
        refine XS.icmpNo X166.here hx rfl (hb hby at_132) rfl (tlt (by decide : (-1 : Int32) < (0 : Int32))).2.2.2 ?_
        show Steps p.tables e below (T166.setTop (mkF m 135 #[.val (.int p0), .val (.int p1), .val (.int p2), .val (.int p3), .val (.int (p1 &&& (3 : Int32))), .val (.int (0 : Int32)), .val (.ref r_119), .val (.ref b120), .val (.ref b132), .val (.ref b143), .val (.ref b151), .val (.ref b162), .unset] [])) _
        refine XS.iconst X166.here hx rfl (hb hby at_135) ?_
        show Steps p.tables e below (T166.setTop (mkF m 136 #[.val (.int p0), .val (.int p1), .val (.int p2), .val (.int p3), .val (.int (p1 &&& (3 : Int32))), .val (.int (0 : Int32)), .val (.ref r_119), .val (.ref b120), .val (.ref b132), .val (.ref b143), .val (.ref b151), .val (.ref b162), .unset] [(.int (1 : Int32))])) _
        refine XS.goto X166.here hx rfl (pc0 := 136) (pc' := 140) rfl (hb hby at_136) (by decide) (by decide) ?_
        show Steps p.tables e below (T166.setTop (mkF m 140 #[.val (.int p0), .val (.int p1), .val (.int p2), .val (.int p3), .val (.int (p1 &&& (3 : Int32))), .val (.int (0 : Int32)), .val (.ref r_119), .val (.ref b120), .val (.ref b132), .val (.ref b143), .val (.ref b151), .val (.ref b162), .unset] [(.int (1 : Int32))])) _
        refine XS.istore X166.here hx rfl (hb hby at_140) rfl (l' := #[.val (.int p0), .val (.int p1), .val (.int p2), .val (.int p3), .val (.int (p1 &&& (3 : Int32))), .val (.int (0 : Int32)), .val (.ref r_119), .val (.ref b120), .val (.ref b132), .val (.ref b143), .val (.ref b151), .val (.ref b162), .val (.int (1 : Int32))]) rfl ?_
        show Steps p.tables e below (T166.setTop (mkF m 142 #[.val (.int p0), .val (.int p1), .val (.int p2), .val (.int p3), .val (.int (p1 &&& (3 : Int32))), .val (.int (0 : Int32)), .val (.ref r_119), .val (.ref b120), .val (.ref b132), .val (.ref b143), .val (.ref b151), .val (.ref b162), .val (.int (1 : Int32))] [])) _
        refine XS.aload X166.here hx rfl (hb hby at_142) rfl rfl ?_
        show Steps p.tables e below (T166.setTop (mkF m 144 #[.val (.int p0), .val (.int p1), .val (.int p2), .val (.int p3), .val (.int (p1 &&& (3 : Int32))), .val (.int (0 : Int32)), .val (.ref r_119), .val (.ref b120), .val (.ref b132), .val (.ref b143), .val (.ref b151), .val (.ref b162), .val (.int (1 : Int32))] [(.ref b162)])) _
        refine st172.trans ?_
        show Steps p.tables e below (T172.setTop (mkF m 147 #[.val (.int p0), .val (.int p1), .val (.int p2), .val (.int p3), .val (.int (p1 &&& (3 : Int32))), .val (.int (0 : Int32)), .val (.ref r_119), .val (.ref b120), .val (.ref b132), .val (.ref b143), .val (.ref b151), .val (.ref b162), .val (.int (1 : Int32))] [(.int (bi (¬ ((0 : Int32) = (-1 : Int32)))))])) _
        refine XS.iload X172.here hx rfl (hb hby at_147) rfl ?_
        show Steps p.tables e below (T172.setTop (mkF m 149 #[.val (.int p0), .val (.int p1), .val (.int p2), .val (.int p3), .val (.int (p1 &&& (3 : Int32))), .val (.int (0 : Int32)), .val (.ref r_119), .val (.ref b120), .val (.ref b132), .val (.ref b143), .val (.ref b151), .val (.ref b162), .val (.int (1 : Int32))] [(.int (1 : Int32)), (.int (bi (¬ ((0 : Int32) = (-1 : Int32)))))])) _
        refine XS.icmpNo X172.here hx rfl (hb hby at_149) rfl (teq (by decide : (bi (¬ ((0 : Int32) = (-1 : Int32)))) = (1 : Int32))).2 ?_
        show Steps p.tables e below (T172.setTop (mkF m 152 #[.val (.int p0), .val (.int p1), .val (.int p2), .val (.int p3), .val (.int (p1 &&& (3 : Int32))), .val (.int (0 : Int32)), .val (.ref r_119), .val (.ref b120), .val (.ref b132), .val (.ref b143), .val (.ref b151), .val (.ref b162), .val (.int (1 : Int32))] [])) _
        refine XS.aload X172.here hx rfl (hb hby at_152) rfl rfl ?_
        show Steps p.tables e below (T172.setTop (mkF m 154 #[.val (.int p0), .val (.int p1), .val (.int p2), .val (.int p3), .val (.int (p1 &&& (3 : Int32))), .val (.int (0 : Int32)), .val (.ref r_119), .val (.ref b120), .val (.ref b132), .val (.ref b143), .val (.ref b151), .val (.ref b162), .val (.int (1 : Int32))] [(.ref b162)])) _
        refine st173.trans ?_
        show Steps p.tables e below (T173.setTop (mkF m 157 #[.val (.int p0), .val (.int p1), .val (.int p2), .val (.int p3), .val (.int (p1 &&& (3 : Int32))), .val (.int (0 : Int32)), .val (.ref r_119), .val (.ref b120), .val (.ref b132), .val (.ref b143), .val (.ref b151), .val (.ref b162), .val (.int (1 : Int32))] [(.int (0 : Int32))])) _
        refine XS.iload X173.here hx rfl (hb hby at_157) rfl ?_
        show Steps p.tables e below (T173.setTop (mkF m 159 #[.val (.int p0), .val (.int p1), .val (.int p2), .val (.int p3), .val (.int (p1 &&& (3 : Int32))), .val (.int (0 : Int32)), .val (.ref r_119), .val (.ref b120), .val (.ref b132), .val (.ref b143), .val (.ref b151), .val (.ref b162), .val (.int (1 : Int32))] [(.int (0 : Int32)), (.int (0 : Int32))])) _
        refine XS.icmpNo X173.here hx rfl (hb hby at_159) rfl (teq (by decide : (0 : Int32) = (0 : Int32))).2 ?_
        show Steps p.tables e below (T173.setTop (mkF m 162 #[.val (.int p0), .val (.int p1), .val (.int p2), .val (.int p3), .val (.int (p1 &&& (3 : Int32))), .val (.int (0 : Int32)), .val (.ref r_119), .val (.ref b120), .val (.ref b132), .val (.ref b143), .val (.ref b151), .val (.ref b162), .val (.int (1 : Int32))] [])) _
        refine XS.iconst X173.here hx rfl (hb hby at_162) ?_
        show Steps p.tables e below (T173.setTop (mkF m 163 #[.val (.int p0), .val (.int p1), .val (.int p2), .val (.int p3), .val (.int (p1 &&& (3 : Int32))), .val (.int (0 : Int32)), .val (.ref r_119), .val (.ref b120), .val (.ref b132), .val (.ref b143), .val (.ref b151), .val (.ref b162), .val (.int (1 : Int32))] [(.int (1 : Int32))])) _
        refine XS.goto X173.here hx rfl (pc0 := 163) (pc' := 167) rfl (hb hby at_163) (by decide) (by decide) ?_
        show Steps p.tables e below (T173.setTop (mkF m 167 #[.val (.int p0), .val (.int p1), .val (.int p2), .val (.int p3), .val (.int (p1 &&& (3 : Int32))), .val (.int (0 : Int32)), .val (.ref r_119), .val (.ref b120), .val (.ref b132), .val (.ref b143), .val (.ref b151), .val (.ref b162), .val (.int (1 : Int32))] [(.int (1 : Int32))])) _
        exact retN X173 hx (t := .boolean) Bd.returns (by simp) (hb hby at_167) hr
      · show Qrm0 Z p0 p1 p2 p3 w0 w1 w2 w3 G1 h0 n0 _ T173.heap _
        rw [e173]
        exact ⟨rfl, N173, KC169⟩
    · obtain ⟨_, _, ⟨T175, L175, k175, n175⟩, -, X175, ⟨Lc175, hQ175, l175, y175, z175⟩, st175⟩ := Jvm.LawKit.callS X0 hx (y := (⟨"com/example/nestor/nestor/core/OccurrenceHasLinePinLaw", "kindOf", "(I)Lcom/example/nestor/nestor/model/UseKind;"⟩ : MethodName)) hown (mvT hZ (hw _ (List.mem_of_getElem? (i := 0) rfl))) (mvT hZ (hw _ (List.mem_of_getElem? (i := 1) rfl))) (mvT hZ (hw _ (List.mem_of_getElem? (i := 2) rfl))) (mvT hZ (hw _ (List.mem_of_getElem? (i := 3) rfl))) (by decide) (backOf (W := 0) (rm1 l Z a0 hw [] (((p1.toUInt32 >>> ((2 : Int32) &&& 31).toUInt32).toInt32) &&& (3 : Int32)) w0 w1 w2 w3 h0 n0 (by omega) H0 H1 H2 H3) hZ (hw _ (List.mem_of_getElem? (i := 3) rfl)) (hw _ (List.mem_of_getElem? (i := 2) rfl)) (by decide) (by decide)) (g := (mkF m 36 #[.val (.int p0), .val (.int p1), .val (.int p2), .val (.int p3), .val (.int (p1 &&& (3 : Int32))), .val (.int p0), .unset, .unset, .unset, .unset, .unset, .unset, .unset] [(.int (((p1.toUInt32 >>> ((2 : Int32) &&& 31).toUInt32).toInt32) &&& (3 : Int32)))])) rfl (by rw [hml]; rfl) (argsL := [(.int (((p1.toUInt32 >>> ((2 : Int32) &&& 31).toUInt32).toInt32) &&& (3 : Int32)))]) (rest := []) (lenOf pd_2 rfl) rfl (by show 2 * 0 + _ ≤ _; exact Nat.le_of_eq rfl) (hb hby at_36) (fun _ _ => ⟨rfl, e0, (by decide : 0 + 0 ≤ _), (by decide : 0 + 0 ≤ _)⟩)
      dsimp only [Pt.U, Pt.locs, Pt.cells, Pt.slots] at X175 l175 y175 z175 st175 hQ175
      subst l175 y175 z175
      obtain ⟨r_175, rfl, N175q, e175⟩ := hQ175
      have N175 := Fr.app N0 N175q
      obtain ⟨T176, h176, k176, X176, e176, E176, A176, st176⟩ := newP X175 hx hZ (hw _ (List.mem_of_getElem? (i := 7) rfl)) e175 (g := (mkF m 42 #[.val (.int p0), .val (.int p1), .val (.int p2), .val (.int p3), .val (.int (p1 &&& (3 : Int32))), .val (.int p0), .val (.ref r_175), .unset, .unset, .unset, .unset, .unset, .unset] [(.int (2 : Int32))])) rfl (hb hby at_42) rfl (by decide) (cap := 2) (by decide) (by decide) (by decide) (by decide)
      obtain ⟨b176, g176⟩ : ∃ z, z = h0.size := ⟨_, rfl⟩
      rw [← g176] at A176 st176
      have z177 := E176.1
      have KC178 : Keep h0 h176 [] := KC0.ext E176
      have V176 : Arv Z h176 b176 k176 .char (2 : Int32) [(.int (0 : Int32)), (.int (0 : Int32))] (.int (0 : Int32)) := (Arv.new A176 (by decide)).pad (pad_rep [] (.int (0 : Int32)) 2)
      have z179 : @LT.lt Nat _ b176 (Array.size h176) := V176.lt
      obtain ⟨cl180, Ar180, q180, S180, N180', H180, G180⟩ := id V176
      have hin180 : ¬ ((0 : Int32) < 0 ∨ cl180.slots.size ≤ ((0 : Int32)).toNatClampNeg) := inb_of S180 ⟨by decide, by decide⟩
      obtain ⟨T181, h181, X181, e181, W181, st181⟩ := stC X176 hx hZ e176 Ar180 (j := (0 : Int32)) hin180 (g := (mkF m 55 #[.val (.int p0), .val (.int p1), .val (.int p2), .val (.int p3), .val (.int (p1 &&& (3 : Int32))), .val (.int p0), .val (.ref r_175), .val (.ref b176), .unset, .unset, .unset, .unset, .unset] [(.int ((p2 &&& (255 : Int32)).toUInt32.toUInt16.toUInt32.toInt32)), (.int (0 : Int32)), (.ref b176)])) rfl rfl (hb hby at_55)
      have z182 := W181.size
      have N181 := Fr.snoc X181 N175 (by omega : n0 ≤ b176)
      have KC183 : Keep h0 h181 [] := KC178.wr W181 (Or.inr (by omega))
      have V181 : Arv Z h181 b176 k176 .char (2 : Int32) [(.int (nar .char ((p2 &&& (255 : Int32)).toUInt32.toUInt16.toUInt32.toInt32))), (.int (0 : Int32))] (.int (0 : Int32)) := Arv.set Ar180 q180 S180 N180' H180 G180 (fits_nar_char _) W181 0 rfl (Nat.le_of_ble_eq_true rfl)
      obtain ⟨cl184, Ar184, q184, S184, N184', H184, G184⟩ := id V181
      have hin184 : ¬ ((1 : Int32) < 0 ∨ cl184.slots.size ≤ ((1 : Int32)).toNatClampNeg) := inb_of S184 ⟨by decide, by decide⟩
      obtain ⟨T185, h185, X185, e185, W185, st185⟩ := stC X181 hx hZ e181 Ar184 (j := (1 : Int32)) hin184 (g := (mkF m 68 #[.val (.int p0), .val (.int p1), .val (.int p2), .val (.int p3), .val (.int (p1 &&& (3 : Int32))), .val (.int p0), .val (.ref r_175), .val (.ref b176), .unset, .unset, .unset, .unset, .unset] [(.int ((((p2.toUInt32 >>> ((8 : Int32) &&& 31).toUInt32).toInt32) &&& (255 : Int32)).toUInt32.toUInt16.toUInt32.toInt32)), (.int (1 : Int32)), (.ref b176)])) rfl rfl (hb hby at_68)
      have z186 := W185.size
      have N185 := Fr.snoc X185 N181 (by omega : n0 ≤ b176)
      have KC187 : Keep h0 h185 [] := KC183.wr W185 (Or.inr (by omega))
      have V185 : Arv Z h185 b176 k176 .char (2 : Int32) [(.int (nar .char ((p2 &&& (255 : Int32)).toUInt32.toUInt16.toUInt32.toInt32))), (.int (nar .char ((((p2.toUInt32 >>> ((8 : Int32) &&& 31).toUInt32).toInt32) &&& (255 : Int32)).toUInt32.toUInt16.toUInt32.toInt32)))] (.int (0 : Int32)) := Arv.set Ar184 q184 S184 N184' H184 G184 (fits_nar_char _) W185 1 rfl (Nat.le_of_ble_eq_true rfl)
      obtain ⟨T188, h188, X188, e188, E188, A188, D188, -, st188⟩ := newO X185 hx hZ hown (hw _ (List.mem_of_getElem? (i := 8) rfl)) (hw _ (List.mem_of_getElem? (i := 9) rfl)) (hw _ (List.mem_of_getElem? (i := 10) rfl)) e185 (g := (mkF m 69 #[.val (.int p0), .val (.int p1), .val (.int p2), .val (.int p3), .val (.int (p1 &&& (3 : Int32))), .val (.int p0), .val (.ref r_175), .val (.ref b176), .unset, .unset, .unset, .unset, .unset] [])) rfl (hb hby at_69) (by decide) (by decide)
      obtain ⟨b188, g188⟩ : ∃ z, z = h185.size := ⟨_, rfl⟩
      rw [← g188] at A188 D188 st188
      have z189 := E188.1
      have KC190 : Keep h0 h188 [] := KC187.ext E188
      have z191 : @LT.lt Nat _ b188 (Array.size h188) := A188.lt
      have F188_coder : Fld Z h188 b188 "java/lang/String" "coder" "B" (.int (0 : Int32)) := D188 (Or.inr (hw _ (List.mem_of_getElem? (i := 34) rfl))) (ty := .byte) (by decide)
      have F188_value : Fld Z h188 b188 "java/lang/String" "value" "[B" .null := D188 (Or.inr (hw _ (List.mem_of_getElem? (i := 36) rfl))) (ty := (.array .byte)) (by decide)
      have Fc193 := (V185.ext E188)
      have Fc194 := ((((H4.ext E176).wr W181).wr W185).ext E188)
      have hp192 : ∀ c ∈ ([(nar .char ((p2 &&& (255 : Int32)).toUInt32.toUInt16.toUInt32.toInt32)), (nar .char ((((p2.toUInt32 >>> ((8 : Int32) &&& 31).toUInt32).toInt32) &&& (255 : Int32)).toUInt32.toUInt16.toUInt32.toInt32))] : List Int32), ¬ c < 0 ∧ ¬ (255 : Int32) < c := by
        intro c hc
        simp only [List.mem_cons, List.not_mem_nil, or_false] at hc
        rcases hc with rfl | rfl
        · exact (own_c255 p2)
        · exact (own_c255 ((p2.toUInt32 >>> ((8 : Int32) &&& 31).toUInt32).toInt32))
      obtain ⟨_, _, ⟨T192, L192, k192, n192⟩, -, X192, ⟨Lc192, hQ192, l192, y192, z192⟩, st192⟩ := X188.specialBack hx (y := (⟨"java/lang/String", "<init>", "([C)V"⟩ : MethodName)) rfl hown (mvT hZ (hw _ (List.mem_of_getElem? (i := 11) rfl))) (mvT hZ (hw _ (List.mem_of_getElem? (i := 12) rfl))) (mvT hZ (hw _ (List.mem_of_getElem? (i := 13) rfl))) (by decide) (StrChars.Road.backV (W := 1) hZ (fun d hd => hw d (own_words d hd)) (kI := 4) (hw _ (List.mem_of_getElem? (i := 9) rfl)) (cs := ([(nar .char ((p2 &&& (255 : Int32)).toUInt32.toUInt16.toUInt32.toInt32)), (nar .char ((((p2.toUInt32 >>> ((8 : Int32) &&& 31).toUInt32).toInt32) &&& (255 : Int32)).toUInt32.toUInt16.toUInt32.toInt32))] : List Int32)) (bs := (([(nar .char ((p2 &&& (255 : Int32)).toUInt32.toUInt16.toUInt32.toInt32)), (nar .char ((((p2.toUInt32 >>> ((8 : Int32) &&& 31).toUInt32).toInt32) &&& (255 : Int32)).toUInt32.toUInt16.toUInt32.toInt32))] : List Int32)).map (fun c => c.toInt8.toInt32)) (n := 2) (by omega : n0 ≤ b188) (by omega : n0 ≤ h188.size) A188 F188_value F188_coder Fc193 Fc194 hG1 rfl rfl (by decide) (by decide) hp192 rfl (by decide) (by decide)) (g := (mkF m 75 #[.val (.int p0), .val (.int p1), .val (.int p2), .val (.int p3), .val (.int (p1 &&& (3 : Int32))), .val (.int p0), .val (.ref r_175), .val (.ref b176), .unset, .unset, .unset, .unset, .unset] [(.ref b176), (.ref b188), (.ref b188)])) rfl (by rw [hml]; rfl) (Steps.refl _) (a := b188) (argsL := [(.ref b176)]) (rest := [(.ref b188)]) (lenOf pd_3 rfl) rfl (by show 2 * 0 + _ ≤ _; exact Nat.le_of_eq rfl) (hb hby at_75) (fun _ _ => ⟨rfl, e188, (by decide : 2 + 1 ≤ _), (by decide : 6 + 2 ≤ _)⟩)
      dsimp only [Pt.U, Pt.locs, Pt.cells, Pt.slots] at X192 l192 y192 z192 st192 hQ192
      subst l192 y192 z192
      obtain ⟨rfl, N192q, K192, P192E, P192C, bv192, kb192, u192a, u192b, u192c, P192V, P192A⟩ := hQ192
      have N192 := Fr.app N185 N192q
      have z195 := K192.1
      have KC196 : Keep h0 T192.heap [] := KC190.trans K192 (allS (Or.inr (by omega)) all0)
      have P192B : Arv Z T192.heap bv192 kb192 .byte (2 : Int32) [(.int ((nar .char ((p2 &&& (255 : Int32)).toUInt32.toUInt16.toUInt32.toInt32))).toInt8.toInt32), (.int ((nar .char ((((p2.toUInt32 >>> ((8 : Int32) &&& 31).toUInt32).toInt32) &&& (255 : Int32)).toUInt32.toUInt16.toUInt32.toInt32))).toInt8.toInt32)] (.int (0 : Int32)) := P192A
      have z197 : @LT.lt Nat _ b188 (Array.size T192.heap) := P192E.lt
      have z198 : @LT.lt Nat _ bv192 (Array.size T192.heap) := P192A.lt
      obtain ⟨T199, h199, k199, X199, e199, E199, A199, st199⟩ := newP X192 hx hZ (hw _ (List.mem_of_getElem? (i := 7) rfl)) rfl (g := (mkF m 81 #[.val (.int p0), .val (.int p1), .val (.int p2), .val (.int p3), .val (.int (p1 &&& (3 : Int32))), .val (.int p0), .val (.ref r_175), .val (.ref b176), .val (.ref b188), .unset, .unset, .unset, .unset] [(.int (1 : Int32))])) rfl (hb hby at_81) rfl (by decide) (cap := 1) (by decide) (by decide) (by decide) (by decide)
      obtain ⟨b199, g199⟩ : ∃ z, z = T192.heap.size := ⟨_, rfl⟩
      rw [← g199] at A199 st199
      have z200 := E199.1
      have KC201 : Keep h0 h199 [] := KC196.ext E199
      have V199 : Arv Z h199 b199 k199 .char (1 : Int32) [(.int (0 : Int32))] (.int (0 : Int32)) := (Arv.new A199 (by decide)).pad (pad_rep [] (.int (0 : Int32)) 1)
      have z202 : @LT.lt Nat _ b199 (Array.size h199) := V199.lt
      obtain ⟨cl203, Ar203, q203, S203, N203', H203, G203⟩ := id V199
      have hin203 : ¬ ((0 : Int32) < 0 ∨ cl203.slots.size ≤ ((0 : Int32)).toNatClampNeg) := inb_of S203 ⟨by decide, by decide⟩
      obtain ⟨T204, h204, X204, e204, W204, st204⟩ := stC X199 hx hZ e199 Ar203 (j := (0 : Int32)) hin203 (g := (mkF m 94 #[.val (.int p0), .val (.int p1), .val (.int p2), .val (.int p3), .val (.int (p1 &&& (3 : Int32))), .val (.int p0), .val (.ref r_175), .val (.ref b176), .val (.ref b188), .val (.ref b199), .unset, .unset, .unset] [(.int ((p3 &&& (255 : Int32)).toUInt32.toUInt16.toUInt32.toInt32)), (.int (0 : Int32)), (.ref b199)])) rfl rfl (hb hby at_94)
      have z205 := W204.size
      have N204 := Fr.snoc X204 N192 (by omega : n0 ≤ b199)
      have KC206 : Keep h0 h204 [] := KC201.wr W204 (Or.inr (by omega))
      have V204 : Arv Z h204 b199 k199 .char (1 : Int32) [(.int (nar .char ((p3 &&& (255 : Int32)).toUInt32.toUInt16.toUInt32.toInt32)))] (.int (0 : Int32)) := Arv.set Ar203 q203 S203 N203' H203 G203 (fits_nar_char _) W204 0 rfl (Nat.le_of_ble_eq_true rfl)
      obtain ⟨T207, h207, X207, e207, E207, A207, D207, -, st207⟩ := newO X204 hx hZ hown (hw _ (List.mem_of_getElem? (i := 8) rfl)) (hw _ (List.mem_of_getElem? (i := 9) rfl)) (hw _ (List.mem_of_getElem? (i := 10) rfl)) e204 (g := (mkF m 95 #[.val (.int p0), .val (.int p1), .val (.int p2), .val (.int p3), .val (.int (p1 &&& (3 : Int32))), .val (.int p0), .val (.ref r_175), .val (.ref b176), .val (.ref b188), .val (.ref b199), .unset, .unset, .unset] [])) rfl (hb hby at_95) (by decide) (by decide)
      obtain ⟨b207, g207⟩ : ∃ z, z = h204.size := ⟨_, rfl⟩
      rw [← g207] at A207 D207 st207
      have z208 := E207.1
      have KC209 : Keep h0 h207 [] := KC206.ext E207
      have z210 : @LT.lt Nat _ b207 (Array.size h207) := A207.lt
      have F207_coder : Fld Z h207 b207 "java/lang/String" "coder" "B" (.int (0 : Int32)) := D207 (Or.inr (hw _ (List.mem_of_getElem? (i := 34) rfl))) (ty := .byte) (by decide)
      have F207_value : Fld Z h207 b207 "java/lang/String" "value" "[B" .null := D207 (Or.inr (hw _ (List.mem_of_getElem? (i := 36) rfl))) (ty := (.array .byte)) (by decide)
      have Fc212 := (V204.ext E207)
      have Fc213 := ((((own_staK Fc194 K192 (allS ⟨_, A188⟩ all0)).ext E199).wr W204).ext E207)
      have hp211 : ∀ c ∈ ([(nar .char ((p3 &&& (255 : Int32)).toUInt32.toUInt16.toUInt32.toInt32))] : List Int32), ¬ c < 0 ∧ ¬ (255 : Int32) < c := by
        intro c hc
        simp only [List.mem_cons, List.not_mem_nil, or_false] at hc
        subst hc
        exact (own_c255 p3)
      obtain ⟨_, _, ⟨T211, L211, k211, n211⟩, -, X211, ⟨Lc211, hQ211, l211, y211, z211⟩, st211⟩ := X207.specialBack hx (y := (⟨"java/lang/String", "<init>", "([C)V"⟩ : MethodName)) rfl hown (mvT hZ (hw _ (List.mem_of_getElem? (i := 11) rfl))) (mvT hZ (hw _ (List.mem_of_getElem? (i := 12) rfl))) (mvT hZ (hw _ (List.mem_of_getElem? (i := 13) rfl))) (by decide) (StrChars.Road.backV (W := 1) hZ (fun d hd => hw d (own_words d hd)) (kI := 4) (hw _ (List.mem_of_getElem? (i := 9) rfl)) (cs := ([(nar .char ((p3 &&& (255 : Int32)).toUInt32.toUInt16.toUInt32.toInt32))] : List Int32)) (bs := (([(nar .char ((p3 &&& (255 : Int32)).toUInt32.toUInt16.toUInt32.toInt32))] : List Int32)).map (fun c => c.toInt8.toInt32)) (n := 1) (by omega : n0 ≤ b207) (by omega : n0 ≤ h207.size) A207 F207_value F207_coder Fc212 Fc213 hG1 rfl rfl (by decide) (by decide) hp211 rfl (by decide) (by decide)) (g := (mkF m 101 #[.val (.int p0), .val (.int p1), .val (.int p2), .val (.int p3), .val (.int (p1 &&& (3 : Int32))), .val (.int p0), .val (.ref r_175), .val (.ref b176), .val (.ref b188), .val (.ref b199), .unset, .unset, .unset] [(.ref b199), (.ref b207), (.ref b207)])) rfl (by rw [hml]; rfl) (Steps.refl _) (a := b207) (argsL := [(.ref b199)]) (rest := [(.ref b207)]) (lenOf pd_3 rfl) rfl (by show 2 * 0 + _ ≤ _; exact Nat.le_of_eq rfl) (hb hby at_101) (fun _ _ => ⟨rfl, e207, (by decide : 5 + 1 ≤ _), (by decide : 13 + 1 ≤ _)⟩)
      dsimp only [Pt.U, Pt.locs, Pt.cells, Pt.slots] at X211 l211 y211 z211 st211 hQ211
      subst l211 y211 z211
      obtain ⟨rfl, N211q, K211, P211E, P211C, bv211, kb211, u211a, u211b, u211c, P211V, P211A⟩ := hQ211
      have N211 := Fr.app N204 N211q
      have z214 := K211.1
      have KC215 : Keep h0 T211.heap [] := KC209.trans K211 (allS (Or.inr (by omega)) all0)
      have P211B : Arv Z T211.heap bv211 kb211 .byte (1 : Int32) [(.int ((nar .char ((p3 &&& (255 : Int32)).toUInt32.toUInt16.toUInt32.toInt32))).toInt8.toInt32)] (.int (0 : Int32)) := P211A
      have z216 : @LT.lt Nat _ b207 (Array.size T211.heap) := P211E.lt
      have z217 : @LT.lt Nat _ bv211 (Array.size T211.heap) := P211A.lt
      obtain ⟨T218, h218, X218, e218, E218, A218, D218, -, st218⟩ := newO X211 hx hZ hown (hw _ (List.mem_of_getElem? (i := 37) rfl)) (hw _ (List.mem_of_getElem? (i := 38) rfl)) (hw _ (List.mem_of_getElem? (i := 39) rfl)) rfl (g := (mkF m 106 #[.val (.int p0), .val (.int p1), .val (.int p2), .val (.int p3), .val (.int (p1 &&& (3 : Int32))), .val (.int p0), .val (.ref r_175), .val (.ref b176), .val (.ref b188), .val (.ref b199), .val (.ref b207), .unset, .unset] [])) rfl (hb hby at_106) (by decide) (by decide)
      obtain ⟨b218, g218⟩ : ∃ z, z = T211.heap.size := ⟨_, rfl⟩
      rw [← g218] at A218 D218 st218
      have z219 := E218.1
      have KC220 : Keep h0 h218 [] := KC215.ext E218
      have z221 : @LT.lt Nat _ b218 (Array.size h218) := A218.lt
      have F218_source : Fld Z h218 b218 "com/example/nestor/nestor/core/Occurrence" "source" "Ljava/lang/String;" .null := D218 (Or.inr (hw _ (List.mem_of_getElem? (i := 59) rfl))) (ty := (.object "java/lang/String")) (by decide)
      have F218_line : Fld Z h218 b218 "com/example/nestor/nestor/core/Occurrence" "line" "I" (.int (0 : Int32)) := D218 (Or.inr (hw _ (List.mem_of_getElem? (i := 61) rfl))) (ty := .int) (by decide)
      have F218_kind : Fld Z h218 b218 "com/example/nestor/nestor/core/Occurrence" "kind" "Lcom/example/nestor/nestor/model/UseKind;" .null := D218 (Or.inr (hw _ (List.mem_of_getElem? (i := 63) rfl))) (ty := (.object "com/example/nestor/nestor/model/UseKind")) (by decide)
      have F218_detail : Fld Z h218 b218 "com/example/nestor/nestor/core/Occurrence" "detail" "Ljava/lang/String;" .null := D218 (Or.inr (hw _ (List.mem_of_getElem? (i := 65) rfl))) (ty := (.object "java/lang/String")) (by decide)
      have z223 := congrArg Array.size e218
      obtain ⟨_, _, ⟨T222, L222, k222, n222⟩, -, Y222, hY222, gY222, ⟨Lc222, hQ222, l222, y222, z222⟩, st222⟩ := X218.specialBackS hx (y := (⟨"com/example/nestor/nestor/core/Occurrence", "<init>", "(Ljava/lang/String;ILcom/example/nestor/nestor/model/UseKind;Ljava/lang/String;)V"⟩ : MethodName)) rfl hown (mvT hZ (hw _ (List.mem_of_getElem? (i := 40) rfl))) (mvT hZ (hw _ (List.mem_of_getElem? (i := 41) rfl))) (mvT hZ (hw _ (List.mem_of_getElem? (i := 42) rfl))) (by decide) (backOfS (W := 1) (rm8 l Z a0 hw [] b218 b188 p0 r_175 b207 h218 n0 (by omega) A218 F218_source F218_line F218_kind F218_detail (by omega : n0 ≤ b218)) hZ (hw _ (List.mem_of_getElem? (i := 42) rfl)) (hw _ (List.mem_of_getElem? (i := 39) rfl)) (by decide) (by decide)) (g := (mkF m 118 #[.val (.int p0), .val (.int p1), .val (.int p2), .val (.int p3), .val (.int (p1 &&& (3 : Int32))), .val (.int p0), .val (.ref r_175), .val (.ref b176), .val (.ref b188), .val (.ref b199), .val (.ref b207), .unset, .unset] [(.ref b207), (.ref r_175), (.int p0), (.ref b188), (.ref b218), (.ref b218)])) rfl (by rw [hml]; rfl) (Steps.refl _) (a := b218) (argsL := [(.ref b188), (.int p0), (.ref r_175), (.ref b207)]) (rest := [(.ref b218)]) (lenOf pd_4 rfl) rfl (by show 2 * 0 + _ ≤ _; exact Nat.le_of_eq rfl) (hb hby at_118) (fun _ _ => ⟨rfl, e218, (by decide : 7 + 6 ≤ _), (by decide : 18 + 76 ≤ _)⟩)
      dsimp only [Pt.U, Pt.locs, Pt.cells, Pt.slots] at Y222 hY222 gY222 l222 y222 z222 st222 hQ222
      subst l222 y222 z222
      obtain ⟨X222, hS222, hZ222, hw222⟩ := rebS (s := s) (vm0 := s.vm) hS0 (by omega : h0.size ≤ T218.heap.size) Y222 hY222 gY222 hZ hown
      obtain ⟨rfl, N222q, K222, P222_0, P222_1⟩ := hQ222
      have N222 := Fr.app N211 N222q
      have z224 := K222.1
      have KC225 : Keep h0 T222.heap [] := KC220.trans K222 (allS (Or.inr (by omega)) all0)
      have z226 : @LT.lt Nat _ b218 (Array.size T222.heap) := P222_0.lt
      have z227 : @LT.lt Nat _ b218 (Array.size T222.heap) := P222_1.lt
      have pre228 : ∀ t, Steps p.tables e below (T222.setTop (mkF m 126 #[.val (.int p0), .val (.int p1), .val (.int p2), .val (.int p3), .val (.int (p1 &&& (3 : Int32))), .val (.int p0), .val (.ref r_175), .val (.ref b176), .val (.ref b188), .val (.ref b199), .val (.ref b207), .val (.ref b218), .unset] [(.int (-1 : Int32)), (.int p0)])) t → Steps p.tables e below (s₁.setTop (entryFrame m #[(.int p0), (.int p1), (.int p2), (.int p3)] maxLocals)) t := fun t k => by
        refine pre117 _ ?_
        show Steps p.tables e below (s₁.setTop (mkF m 19 #[.val (.int p0), .val (.int p1), .val (.int p2), .val (.int p3), .val (.int (p1 &&& (3 : Int32))), .unset, .unset, .unset, .unset, .unset, .unset, .unset, .unset] [(.int (1 : Int32)), (.int (p1 &&& (3 : Int32)))])) _
        refine XS.icmpYes X0.here hx rfl (pc0 := 19) (pc' := 28) rfl (hb hby at_19) rfl (feq (hc118 : ¬ ((p1 &&& (3 : Int32)) = (1 : Int32)))).2 (by decide) (by decide) ?_
        show Steps p.tables e below (s₁.setTop (mkF m 28 #[.val (.int p0), .val (.int p1), .val (.int p2), .val (.int p3), .val (.int (p1 &&& (3 : Int32))), .unset, .unset, .unset, .unset, .unset, .unset, .unset, .unset] [])) _
        refine XS.iloadN X0.here hx rfl (hb hby at_28) rfl ?_
        show Steps p.tables e below (s₁.setTop (mkF m 29 #[.val (.int p0), .val (.int p1), .val (.int p2), .val (.int p3), .val (.int (p1 &&& (3 : Int32))), .unset, .unset, .unset, .unset, .unset, .unset, .unset, .unset] [(.int p0)])) _
        refine XS.istore X0.here hx rfl (hb hby at_29) rfl (l' := #[.val (.int p0), .val (.int p1), .val (.int p2), .val (.int p3), .val (.int (p1 &&& (3 : Int32))), .val (.int p0), .unset, .unset, .unset, .unset, .unset, .unset, .unset]) rfl ?_
        show Steps p.tables e below (s₁.setTop (mkF m 31 #[.val (.int p0), .val (.int p1), .val (.int p2), .val (.int p3), .val (.int (p1 &&& (3 : Int32))), .val (.int p0), .unset, .unset, .unset, .unset, .unset, .unset, .unset] [])) _
        refine XS.iloadN X0.here hx rfl (hb hby at_31) rfl ?_
        show Steps p.tables e below (s₁.setTop (mkF m 32 #[.val (.int p0), .val (.int p1), .val (.int p2), .val (.int p3), .val (.int (p1 &&& (3 : Int32))), .val (.int p0), .unset, .unset, .unset, .unset, .unset, .unset, .unset] [(.int p1)])) _
        refine XS.iconst X0.here hx rfl (hb hby at_32) ?_
        show Steps p.tables e below (s₁.setTop (mkF m 33 #[.val (.int p0), .val (.int p1), .val (.int p2), .val (.int p3), .val (.int (p1 &&& (3 : Int32))), .val (.int p0), .unset, .unset, .unset, .unset, .unset, .unset, .unset] [(.int (2 : Int32)), (.int p1)])) _
        refine XS.iushr X0.here hx rfl (hb hby at_33) rfl ?_
        show Steps p.tables e below (s₁.setTop (mkF m 34 #[.val (.int p0), .val (.int p1), .val (.int p2), .val (.int p3), .val (.int (p1 &&& (3 : Int32))), .val (.int p0), .unset, .unset, .unset, .unset, .unset, .unset, .unset] [(.int ((p1.toUInt32 >>> ((2 : Int32) &&& 31).toUInt32).toInt32))])) _
        refine XS.iconst X0.here hx rfl (hb hby at_34) ?_
        show Steps p.tables e below (s₁.setTop (mkF m 35 #[.val (.int p0), .val (.int p1), .val (.int p2), .val (.int p3), .val (.int (p1 &&& (3 : Int32))), .val (.int p0), .unset, .unset, .unset, .unset, .unset, .unset, .unset] [(.int (3 : Int32)), (.int ((p1.toUInt32 >>> ((2 : Int32) &&& 31).toUInt32).toInt32))])) _
        refine XS.iand X0.here hx rfl (hb hby at_35) rfl ?_
        show Steps p.tables e below (s₁.setTop (mkF m 36 #[.val (.int p0), .val (.int p1), .val (.int p2), .val (.int p3), .val (.int (p1 &&& (3 : Int32))), .val (.int p0), .unset, .unset, .unset, .unset, .unset, .unset, .unset] [(.int (((p1.toUInt32 >>> ((2 : Int32) &&& 31).toUInt32).toInt32) &&& (3 : Int32)))])) _
        refine st175 _ ?_
        show Steps p.tables e below (T175.setTop (mkF m 39 #[.val (.int p0), .val (.int p1), .val (.int p2), .val (.int p3), .val (.int (p1 &&& (3 : Int32))), .val (.int p0), .unset, .unset, .unset, .unset, .unset, .unset, .unset] [(.ref r_175)])) _
        refine XS.astore X175.here hx rfl (hb hby at_39) rfl rfl (l' := #[.val (.int p0), .val (.int p1), .val (.int p2), .val (.int p3), .val (.int (p1 &&& (3 : Int32))), .val (.int p0), .val (.ref r_175), .unset, .unset, .unset, .unset, .unset, .unset]) rfl ?_
        show Steps p.tables e below (T175.setTop (mkF m 41 #[.val (.int p0), .val (.int p1), .val (.int p2), .val (.int p3), .val (.int (p1 &&& (3 : Int32))), .val (.int p0), .val (.ref r_175), .unset, .unset, .unset, .unset, .unset, .unset] [])) _
        refine XS.iconst X175.here hx rfl (hb hby at_41) ?_
        show Steps p.tables e below (T175.setTop (mkF m 42 #[.val (.int p0), .val (.int p1), .val (.int p2), .val (.int p3), .val (.int (p1 &&& (3 : Int32))), .val (.int p0), .val (.ref r_175), .unset, .unset, .unset, .unset, .unset, .unset] [(.int (2 : Int32))])) _
        refine st176 _ ?_
        show Steps p.tables e below (T176.setTop (mkF m 44 #[.val (.int p0), .val (.int p1), .val (.int p2), .val (.int p3), .val (.int (p1 &&& (3 : Int32))), .val (.int p0), .val (.ref r_175), .unset, .unset, .unset, .unset, .unset, .unset] [(.ref b176)])) _
        refine XS.astore X176.here hx rfl (hb hby at_44) rfl rfl (l' := #[.val (.int p0), .val (.int p1), .val (.int p2), .val (.int p3), .val (.int (p1 &&& (3 : Int32))), .val (.int p0), .val (.ref r_175), .val (.ref b176), .unset, .unset, .unset, .unset, .unset]) rfl ?_
        show Steps p.tables e below (T176.setTop (mkF m 46 #[.val (.int p0), .val (.int p1), .val (.int p2), .val (.int p3), .val (.int (p1 &&& (3 : Int32))), .val (.int p0), .val (.ref r_175), .val (.ref b176), .unset, .unset, .unset, .unset, .unset] [])) _
        refine XS.aload X176.here hx rfl (hb hby at_46) rfl rfl ?_
        show Steps p.tables e below (T176.setTop (mkF m 48 #[.val (.int p0), .val (.int p1), .val (.int p2), .val (.int p3), .val (.int (p1 &&& (3 : Int32))), .val (.int p0), .val (.ref r_175), .val (.ref b176), .unset, .unset, .unset, .unset, .unset] [(.ref b176)])) _
        refine XS.iconst X176.here hx rfl (hb hby at_48) ?_
        show Steps p.tables e below (T176.setTop (mkF m 49 #[.val (.int p0), .val (.int p1), .val (.int p2), .val (.int p3), .val (.int (p1 &&& (3 : Int32))), .val (.int p0), .val (.ref r_175), .val (.ref b176), .unset, .unset, .unset, .unset, .unset] [(.int (0 : Int32)), (.ref b176)])) _
        refine XS.iloadN X176.here hx rfl (hb hby at_49) rfl ?_
        show Steps p.tables e below (T176.setTop (mkF m 50 #[.val (.int p0), .val (.int p1), .val (.int p2), .val (.int p3), .val (.int (p1 &&& (3 : Int32))), .val (.int p0), .val (.ref r_175), .val (.ref b176), .unset, .unset, .unset, .unset, .unset] [(.int p2), (.int (0 : Int32)), (.ref b176)])) _
        refine XS.sipush X176.here hx rfl (hb hby at_50) ?_
        show Steps p.tables e below (T176.setTop (mkF m 53 #[.val (.int p0), .val (.int p1), .val (.int p2), .val (.int p3), .val (.int (p1 &&& (3 : Int32))), .val (.int p0), .val (.ref r_175), .val (.ref b176), .unset, .unset, .unset, .unset, .unset] [(.int (255 : Int32)), (.int p2), (.int (0 : Int32)), (.ref b176)])) _
        refine XS.iand X176.here hx rfl (hb hby at_53) rfl ?_
        show Steps p.tables e below (T176.setTop (mkF m 54 #[.val (.int p0), .val (.int p1), .val (.int p2), .val (.int p3), .val (.int (p1 &&& (3 : Int32))), .val (.int p0), .val (.ref r_175), .val (.ref b176), .unset, .unset, .unset, .unset, .unset] [(.int (p2 &&& (255 : Int32))), (.int (0 : Int32)), (.ref b176)])) _
        refine XS.i2c X176.here hx rfl (hb hby at_54) rfl ?_
        show Steps p.tables e below (T176.setTop (mkF m 55 #[.val (.int p0), .val (.int p1), .val (.int p2), .val (.int p3), .val (.int (p1 &&& (3 : Int32))), .val (.int p0), .val (.ref r_175), .val (.ref b176), .unset, .unset, .unset, .unset, .unset] [(.int ((p2 &&& (255 : Int32)).toUInt32.toUInt16.toUInt32.toInt32)), (.int (0 : Int32)), (.ref b176)])) _
        refine st181 _ ?_
        show Steps p.tables e below (T181.setTop (mkF m 56 #[.val (.int p0), .val (.int p1), .val (.int p2), .val (.int p3), .val (.int (p1 &&& (3 : Int32))), .val (.int p0), .val (.ref r_175), .val (.ref b176), .unset, .unset, .unset, .unset, .unset] [])) _
        refine XS.aload X181.here hx rfl (hb hby at_56) rfl rfl ?_
        show Steps p.tables e below (T181.setTop (mkF m 58 #[.val (.int p0), .val (.int p1), .val (.int p2), .val (.int p3), .val (.int (p1 &&& (3 : Int32))), .val (.int p0), .val (.ref r_175), .val (.ref b176), .unset, .unset, .unset, .unset, .unset] [(.ref b176)])) _
        refine XS.iconst X181.here hx rfl (hb hby at_58) ?_
        show Steps p.tables e below (T181.setTop (mkF m 59 #[.val (.int p0), .val (.int p1), .val (.int p2), .val (.int p3), .val (.int (p1 &&& (3 : Int32))), .val (.int p0), .val (.ref r_175), .val (.ref b176), .unset, .unset, .unset, .unset, .unset] [(.int (1 : Int32)), (.ref b176)])) _
        refine XS.iloadN X181.here hx rfl (hb hby at_59) rfl ?_
        show Steps p.tables e below (T181.setTop (mkF m 60 #[.val (.int p0), .val (.int p1), .val (.int p2), .val (.int p3), .val (.int (p1 &&& (3 : Int32))), .val (.int p0), .val (.ref r_175), .val (.ref b176), .unset, .unset, .unset, .unset, .unset] [(.int p2), (.int (1 : Int32)), (.ref b176)])) _
        refine XS.bipush X181.here hx rfl (hb hby at_60) ?_
        show Steps p.tables e below (T181.setTop (mkF m 62 #[.val (.int p0), .val (.int p1), .val (.int p2), .val (.int p3), .val (.int (p1 &&& (3 : Int32))), .val (.int p0), .val (.ref r_175), .val (.ref b176), .unset, .unset, .unset, .unset, .unset] [(.int (8 : Int32)), (.int p2), (.int (1 : Int32)), (.ref b176)])) _
        refine XS.iushr X181.here hx rfl (hb hby at_62) rfl ?_
        show Steps p.tables e below (T181.setTop (mkF m 63 #[.val (.int p0), .val (.int p1), .val (.int p2), .val (.int p3), .val (.int (p1 &&& (3 : Int32))), .val (.int p0), .val (.ref r_175), .val (.ref b176), .unset, .unset, .unset, .unset, .unset] [(.int ((p2.toUInt32 >>> ((8 : Int32) &&& 31).toUInt32).toInt32)), (.int (1 : Int32)), (.ref b176)])) _
        refine XS.sipush X181.here hx rfl (hb hby at_63) ?_
        show Steps p.tables e below (T181.setTop (mkF m 66 #[.val (.int p0), .val (.int p1), .val (.int p2), .val (.int p3), .val (.int (p1 &&& (3 : Int32))), .val (.int p0), .val (.ref r_175), .val (.ref b176), .unset, .unset, .unset, .unset, .unset] [(.int (255 : Int32)), (.int ((p2.toUInt32 >>> ((8 : Int32) &&& 31).toUInt32).toInt32)), (.int (1 : Int32)), (.ref b176)])) _
        refine XS.iand X181.here hx rfl (hb hby at_66) rfl ?_
        show Steps p.tables e below (T181.setTop (mkF m 67 #[.val (.int p0), .val (.int p1), .val (.int p2), .val (.int p3), .val (.int (p1 &&& (3 : Int32))), .val (.int p0), .val (.ref r_175), .val (.ref b176), .unset, .unset, .unset, .unset, .unset] [(.int (((p2.toUInt32 >>> ((8 : Int32) &&& 31).toUInt32).toInt32) &&& (255 : Int32))), (.int (1 : Int32)), (.ref b176)])) _
        refine XS.i2c X181.here hx rfl (hb hby at_67) rfl ?_
        show Steps p.tables e below (T181.setTop (mkF m 68 #[.val (.int p0), .val (.int p1), .val (.int p2), .val (.int p3), .val (.int (p1 &&& (3 : Int32))), .val (.int p0), .val (.ref r_175), .val (.ref b176), .unset, .unset, .unset, .unset, .unset] [(.int ((((p2.toUInt32 >>> ((8 : Int32) &&& 31).toUInt32).toInt32) &&& (255 : Int32)).toUInt32.toUInt16.toUInt32.toInt32)), (.int (1 : Int32)), (.ref b176)])) _
        refine st185 _ ?_
        show Steps p.tables e below (T185.setTop (mkF m 69 #[.val (.int p0), .val (.int p1), .val (.int p2), .val (.int p3), .val (.int (p1 &&& (3 : Int32))), .val (.int p0), .val (.ref r_175), .val (.ref b176), .unset, .unset, .unset, .unset, .unset] [])) _
        refine st188 _ ?_
        show Steps p.tables e below (T188.setTop (mkF m 72 #[.val (.int p0), .val (.int p1), .val (.int p2), .val (.int p3), .val (.int (p1 &&& (3 : Int32))), .val (.int p0), .val (.ref r_175), .val (.ref b176), .unset, .unset, .unset, .unset, .unset] [(.ref b188)])) _
        refine XS.dup X188.here hx rfl (hb hby at_72) rfl rfl ?_
        show Steps p.tables e below (T188.setTop (mkF m 73 #[.val (.int p0), .val (.int p1), .val (.int p2), .val (.int p3), .val (.int (p1 &&& (3 : Int32))), .val (.int p0), .val (.ref r_175), .val (.ref b176), .unset, .unset, .unset, .unset, .unset] [(.ref b188), (.ref b188)])) _
        refine XS.aload X188.here hx rfl (hb hby at_73) rfl rfl ?_
        show Steps p.tables e below (T188.setTop (mkF m 75 #[.val (.int p0), .val (.int p1), .val (.int p2), .val (.int p3), .val (.int (p1 &&& (3 : Int32))), .val (.int p0), .val (.ref r_175), .val (.ref b176), .unset, .unset, .unset, .unset, .unset] [(.ref b176), (.ref b188), (.ref b188)])) _
        refine st192.trans ?_
        show Steps p.tables e below (T192.setTop (mkF m 78 #[.val (.int p0), .val (.int p1), .val (.int p2), .val (.int p3), .val (.int (p1 &&& (3 : Int32))), .val (.int p0), .val (.ref r_175), .val (.ref b176), .unset, .unset, .unset, .unset, .unset] [(.ref b188)])) _
        refine XS.astore X192.here hx rfl (hb hby at_78) rfl rfl (l' := #[.val (.int p0), .val (.int p1), .val (.int p2), .val (.int p3), .val (.int (p1 &&& (3 : Int32))), .val (.int p0), .val (.ref r_175), .val (.ref b176), .val (.ref b188), .unset, .unset, .unset, .unset]) rfl ?_
        show Steps p.tables e below (T192.setTop (mkF m 80 #[.val (.int p0), .val (.int p1), .val (.int p2), .val (.int p3), .val (.int (p1 &&& (3 : Int32))), .val (.int p0), .val (.ref r_175), .val (.ref b176), .val (.ref b188), .unset, .unset, .unset, .unset] [])) _
        refine XS.iconst X192.here hx rfl (hb hby at_80) ?_
        show Steps p.tables e below (T192.setTop (mkF m 81 #[.val (.int p0), .val (.int p1), .val (.int p2), .val (.int p3), .val (.int (p1 &&& (3 : Int32))), .val (.int p0), .val (.ref r_175), .val (.ref b176), .val (.ref b188), .unset, .unset, .unset, .unset] [(.int (1 : Int32))])) _
        refine st199 _ ?_
        show Steps p.tables e below (T199.setTop (mkF m 83 #[.val (.int p0), .val (.int p1), .val (.int p2), .val (.int p3), .val (.int (p1 &&& (3 : Int32))), .val (.int p0), .val (.ref r_175), .val (.ref b176), .val (.ref b188), .unset, .unset, .unset, .unset] [(.ref b199)])) _
        refine XS.astore X199.here hx rfl (hb hby at_83) rfl rfl (l' := #[.val (.int p0), .val (.int p1), .val (.int p2), .val (.int p3), .val (.int (p1 &&& (3 : Int32))), .val (.int p0), .val (.ref r_175), .val (.ref b176), .val (.ref b188), .val (.ref b199), .unset, .unset, .unset]) rfl ?_
        show Steps p.tables e below (T199.setTop (mkF m 85 #[.val (.int p0), .val (.int p1), .val (.int p2), .val (.int p3), .val (.int (p1 &&& (3 : Int32))), .val (.int p0), .val (.ref r_175), .val (.ref b176), .val (.ref b188), .val (.ref b199), .unset, .unset, .unset] [])) _
        refine XS.aload X199.here hx rfl (hb hby at_85) rfl rfl ?_
        show Steps p.tables e below (T199.setTop (mkF m 87 #[.val (.int p0), .val (.int p1), .val (.int p2), .val (.int p3), .val (.int (p1 &&& (3 : Int32))), .val (.int p0), .val (.ref r_175), .val (.ref b176), .val (.ref b188), .val (.ref b199), .unset, .unset, .unset] [(.ref b199)])) _
        refine XS.iconst X199.here hx rfl (hb hby at_87) ?_
        show Steps p.tables e below (T199.setTop (mkF m 88 #[.val (.int p0), .val (.int p1), .val (.int p2), .val (.int p3), .val (.int (p1 &&& (3 : Int32))), .val (.int p0), .val (.ref r_175), .val (.ref b176), .val (.ref b188), .val (.ref b199), .unset, .unset, .unset] [(.int (0 : Int32)), (.ref b199)])) _
        refine XS.iloadN X199.here hx rfl (hb hby at_88) rfl ?_
        show Steps p.tables e below (T199.setTop (mkF m 89 #[.val (.int p0), .val (.int p1), .val (.int p2), .val (.int p3), .val (.int (p1 &&& (3 : Int32))), .val (.int p0), .val (.ref r_175), .val (.ref b176), .val (.ref b188), .val (.ref b199), .unset, .unset, .unset] [(.int p3), (.int (0 : Int32)), (.ref b199)])) _
        refine XS.sipush X199.here hx rfl (hb hby at_89) ?_
        show Steps p.tables e below (T199.setTop (mkF m 92 #[.val (.int p0), .val (.int p1), .val (.int p2), .val (.int p3), .val (.int (p1 &&& (3 : Int32))), .val (.int p0), .val (.ref r_175), .val (.ref b176), .val (.ref b188), .val (.ref b199), .unset, .unset, .unset] [(.int (255 : Int32)), (.int p3), (.int (0 : Int32)), (.ref b199)])) _
        refine XS.iand X199.here hx rfl (hb hby at_92) rfl ?_
        show Steps p.tables e below (T199.setTop (mkF m 93 #[.val (.int p0), .val (.int p1), .val (.int p2), .val (.int p3), .val (.int (p1 &&& (3 : Int32))), .val (.int p0), .val (.ref r_175), .val (.ref b176), .val (.ref b188), .val (.ref b199), .unset, .unset, .unset] [(.int (p3 &&& (255 : Int32))), (.int (0 : Int32)), (.ref b199)])) _
        refine XS.i2c X199.here hx rfl (hb hby at_93) rfl ?_
        show Steps p.tables e below (T199.setTop (mkF m 94 #[.val (.int p0), .val (.int p1), .val (.int p2), .val (.int p3), .val (.int (p1 &&& (3 : Int32))), .val (.int p0), .val (.ref r_175), .val (.ref b176), .val (.ref b188), .val (.ref b199), .unset, .unset, .unset] [(.int ((p3 &&& (255 : Int32)).toUInt32.toUInt16.toUInt32.toInt32)), (.int (0 : Int32)), (.ref b199)])) _
        refine st204 _ ?_
        show Steps p.tables e below (T204.setTop (mkF m 95 #[.val (.int p0), .val (.int p1), .val (.int p2), .val (.int p3), .val (.int (p1 &&& (3 : Int32))), .val (.int p0), .val (.ref r_175), .val (.ref b176), .val (.ref b188), .val (.ref b199), .unset, .unset, .unset] [])) _
        refine st207 _ ?_
        show Steps p.tables e below (T207.setTop (mkF m 98 #[.val (.int p0), .val (.int p1), .val (.int p2), .val (.int p3), .val (.int (p1 &&& (3 : Int32))), .val (.int p0), .val (.ref r_175), .val (.ref b176), .val (.ref b188), .val (.ref b199), .unset, .unset, .unset] [(.ref b207)])) _
        refine XS.dup X207.here hx rfl (hb hby at_98) rfl rfl ?_
        show Steps p.tables e below (T207.setTop (mkF m 99 #[.val (.int p0), .val (.int p1), .val (.int p2), .val (.int p3), .val (.int (p1 &&& (3 : Int32))), .val (.int p0), .val (.ref r_175), .val (.ref b176), .val (.ref b188), .val (.ref b199), .unset, .unset, .unset] [(.ref b207), (.ref b207)])) _
        refine XS.aload X207.here hx rfl (hb hby at_99) rfl rfl ?_
        show Steps p.tables e below (T207.setTop (mkF m 101 #[.val (.int p0), .val (.int p1), .val (.int p2), .val (.int p3), .val (.int (p1 &&& (3 : Int32))), .val (.int p0), .val (.ref r_175), .val (.ref b176), .val (.ref b188), .val (.ref b199), .unset, .unset, .unset] [(.ref b199), (.ref b207), (.ref b207)])) _
        refine st211.trans ?_
        show Steps p.tables e below (T211.setTop (mkF m 104 #[.val (.int p0), .val (.int p1), .val (.int p2), .val (.int p3), .val (.int (p1 &&& (3 : Int32))), .val (.int p0), .val (.ref r_175), .val (.ref b176), .val (.ref b188), .val (.ref b199), .unset, .unset, .unset] [(.ref b207)])) _
        refine XS.astore X211.here hx rfl (hb hby at_104) rfl rfl (l' := #[.val (.int p0), .val (.int p1), .val (.int p2), .val (.int p3), .val (.int (p1 &&& (3 : Int32))), .val (.int p0), .val (.ref r_175), .val (.ref b176), .val (.ref b188), .val (.ref b199), .val (.ref b207), .unset, .unset]) rfl ?_
        show Steps p.tables e below (T211.setTop (mkF m 106 #[.val (.int p0), .val (.int p1), .val (.int p2), .val (.int p3), .val (.int (p1 &&& (3 : Int32))), .val (.int p0), .val (.ref r_175), .val (.ref b176), .val (.ref b188), .val (.ref b199), .val (.ref b207), .unset, .unset] [])) _
        refine st218 _ ?_
        show Steps p.tables e below (T218.setTop (mkF m 109 #[.val (.int p0), .val (.int p1), .val (.int p2), .val (.int p3), .val (.int (p1 &&& (3 : Int32))), .val (.int p0), .val (.ref r_175), .val (.ref b176), .val (.ref b188), .val (.ref b199), .val (.ref b207), .unset, .unset] [(.ref b218)])) _
        refine XS.dup X218.here hx rfl (hb hby at_109) rfl rfl ?_
        show Steps p.tables e below (T218.setTop (mkF m 110 #[.val (.int p0), .val (.int p1), .val (.int p2), .val (.int p3), .val (.int (p1 &&& (3 : Int32))), .val (.int p0), .val (.ref r_175), .val (.ref b176), .val (.ref b188), .val (.ref b199), .val (.ref b207), .unset, .unset] [(.ref b218), (.ref b218)])) _
        refine XS.aload X218.here hx rfl (hb hby at_110) rfl rfl ?_
        show Steps p.tables e below (T218.setTop (mkF m 112 #[.val (.int p0), .val (.int p1), .val (.int p2), .val (.int p3), .val (.int (p1 &&& (3 : Int32))), .val (.int p0), .val (.ref r_175), .val (.ref b176), .val (.ref b188), .val (.ref b199), .val (.ref b207), .unset, .unset] [(.ref b188), (.ref b218), (.ref b218)])) _
        refine XS.iload X218.here hx rfl (hb hby at_112) rfl ?_
        show Steps p.tables e below (T218.setTop (mkF m 114 #[.val (.int p0), .val (.int p1), .val (.int p2), .val (.int p3), .val (.int (p1 &&& (3 : Int32))), .val (.int p0), .val (.ref r_175), .val (.ref b176), .val (.ref b188), .val (.ref b199), .val (.ref b207), .unset, .unset] [(.int p0), (.ref b188), (.ref b218), (.ref b218)])) _
        refine XS.aload X218.here hx rfl (hb hby at_114) rfl rfl ?_
        show Steps p.tables e below (T218.setTop (mkF m 116 #[.val (.int p0), .val (.int p1), .val (.int p2), .val (.int p3), .val (.int (p1 &&& (3 : Int32))), .val (.int p0), .val (.ref r_175), .val (.ref b176), .val (.ref b188), .val (.ref b199), .val (.ref b207), .unset, .unset] [(.ref r_175), (.int p0), (.ref b188), (.ref b218), (.ref b218)])) _
        refine XS.aload X218.here hx rfl (hb hby at_116) rfl rfl ?_
        show Steps p.tables e below (T218.setTop (mkF m 118 #[.val (.int p0), .val (.int p1), .val (.int p2), .val (.int p3), .val (.int (p1 &&& (3 : Int32))), .val (.int p0), .val (.ref r_175), .val (.ref b176), .val (.ref b188), .val (.ref b199), .val (.ref b207), .unset, .unset] [(.ref b207), (.ref r_175), (.int p0), (.ref b188), (.ref b218), (.ref b218)])) _
        refine st222.trans ?_
        show Steps p.tables e below (T222.setTop (mkF m 121 #[.val (.int p0), .val (.int p1), .val (.int p2), .val (.int p3), .val (.int (p1 &&& (3 : Int32))), .val (.int p0), .val (.ref r_175), .val (.ref b176), .val (.ref b188), .val (.ref b199), .val (.ref b207), .unset, .unset] [(.ref b218)])) _
        refine XS.astore X222.here hx rfl (hb hby at_121) rfl rfl (l' := #[.val (.int p0), .val (.int p1), .val (.int p2), .val (.int p3), .val (.int (p1 &&& (3 : Int32))), .val (.int p0), .val (.ref r_175), .val (.ref b176), .val (.ref b188), .val (.ref b199), .val (.ref b207), .val (.ref b218), .unset]) rfl ?_
        show Steps p.tables e below (T222.setTop (mkF m 123 #[.val (.int p0), .val (.int p1), .val (.int p2), .val (.int p3), .val (.int (p1 &&& (3 : Int32))), .val (.int p0), .val (.ref r_175), .val (.ref b176), .val (.ref b188), .val (.ref b199), .val (.ref b207), .val (.ref b218), .unset] [])) _
        refine XS.iload X222.here hx rfl (hb hby at_123) rfl ?_
        show Steps p.tables e below (T222.setTop (mkF m 125 #[.val (.int p0), .val (.int p1), .val (.int p2), .val (.int p3), .val (.int (p1 &&& (3 : Int32))), .val (.int p0), .val (.ref r_175), .val (.ref b176), .val (.ref b188), .val (.ref b199), .val (.ref b207), .val (.ref b218), .unset] [(.int p0)])) _
        refine XS.iconst X222.here hx rfl (hb hby at_125) ?_
        exact k
      by_cases hc229 : p0 < (-1 : Int32)
      · obtain ⟨cq230, kq230, qa230, qb230, qc230⟩ := isOf hZ222 rfl P222_0
        obtain ⟨_, _, ⟨T230, L230, k230, n230⟩, -, X230, ⟨Lc230, hQ230, l230, y230, z230⟩, st230⟩ := X222.virtualBack hx (y := (⟨"com/example/nestor/nestor/core/Occurrence", "hasLine", "()Z"⟩ : MethodName)) (z := (⟨"com/example/nestor/nestor/core/Occurrence", "hasLine", "()Z"⟩ : MethodName)) hw222 (mvT hZ222 (hw _ (List.mem_of_getElem? (i := 66) rfl))) (mvT hZ222 (hw _ (List.mem_of_getElem? (i := 67) rfl))) (notFace_of_selects (args := #[]) (mvT hZ222 (hw _ (List.mem_of_getElem? (i := 69) rfl)))) (mvT hZ222 (hw _ (List.mem_of_getElem? (i := 69) rfl))) (mvT hZ222 (hw _ (List.mem_of_getElem? (i := 68) rfl))) (by decide) (backOf (W := 0) (rm11 l Z a0 hw [] b218 p0 T222.heap n0 (by omega) P222_1) hZ222 (hw _ (List.mem_of_getElem? (i := 70) rfl)) (hw _ (List.mem_of_getElem? (i := 39) rfl)) (by decide) (by decide)) qa230 qc230 (g := (mkF m 144 #[.val (.int p0), .val (.int p1), .val (.int p2), .val (.int p3), .val (.int (p1 &&& (3 : Int32))), .val (.int p0), .val (.ref r_175), .val (.ref b176), .val (.ref b188), .val (.ref b199), .val (.ref b207), .val (.ref b218), .val (.int (1 : Int32))] [(.ref b218)])) rfl (by rw [hml]; rfl) (Steps.refl _) (argsL := []) (rest := []) (lenOf pd_5 rfl) rfl (by show 2 * 0 + _ ≤ _; exact Nat.le_of_eq rfl) (hb hby at_144) (fun _ _ => ⟨rfl, rfl, (by decide : 13 + 0 ≤ _), (by decide : 94 + 0 ≤ _)⟩)
        dsimp only [Pt.U, Pt.locs, Pt.cells, Pt.slots] at X230 l230 y230 z230 st230 hQ230
        subst l230 y230 z230
        obtain ⟨rfl, N230q, e230⟩ := hQ230
        have N230 := Fr.app N222 N230q
        obtain ⟨cq231, kq231, qa231, qb231, qc231⟩ := isOf hZ222 e230 P222_0
        obtain ⟨_, _, ⟨T231, L231, k231, n231⟩, -, X231, ⟨Lc231, hQ231, l231, y231, z231⟩, st231⟩ := X230.virtualBack hx (y := (⟨"com/example/nestor/nestor/core/Occurrence", "line", "()I"⟩ : MethodName)) (z := (⟨"com/example/nestor/nestor/core/Occurrence", "line", "()I"⟩ : MethodName)) hw222 (mvT hZ222 (hw _ (List.mem_of_getElem? (i := 71) rfl))) (mvT hZ222 (hw _ (List.mem_of_getElem? (i := 72) rfl))) (notFace_of_selects (args := #[]) (mvT hZ222 (hw _ (List.mem_of_getElem? (i := 74) rfl)))) (mvT hZ222 (hw _ (List.mem_of_getElem? (i := 74) rfl))) (mvT hZ222 (hw _ (List.mem_of_getElem? (i := 73) rfl))) (by decide) (backOf (W := 0) (rm12 l Z a0 hw [] b218 p0 T222.heap n0 (by omega) P222_1) hZ222 (hw _ (List.mem_of_getElem? (i := 75) rfl)) (hw _ (List.mem_of_getElem? (i := 39) rfl)) (by decide) (by decide)) qa231 qc231 (g := (mkF m 154 #[.val (.int p0), .val (.int p1), .val (.int p2), .val (.int p3), .val (.int (p1 &&& (3 : Int32))), .val (.int p0), .val (.ref r_175), .val (.ref b176), .val (.ref b188), .val (.ref b199), .val (.ref b207), .val (.ref b218), .val (.int (1 : Int32))] [(.ref b218)])) rfl (by rw [hml]; rfl) (Steps.refl _) (argsL := []) (rest := []) (lenOf pd_6 rfl) rfl (by show 2 * 0 + _ ≤ _; exact Nat.le_of_eq rfl) (hb hby at_154) (fun _ _ => ⟨rfl, e230, (by decide : 13 + 0 ≤ _), (by decide : 94 + 0 ≤ _)⟩)
        dsimp only [Pt.U, Pt.locs, Pt.cells, Pt.slots] at X231 l231 y231 z231 st231 hQ231
        subst l231 y231 z231
        obtain ⟨rfl, N231q, e231⟩ := hQ231
        have N231 := Fr.app N230 N231q
        have z232 := congrArg Array.size e231
        obtain ⟨fs, hr, hrun, hended, rE1, rE2, rE3, rE4⟩ := leaveW (s := s) (vm₁ := T222.vm) X231 hS222 (by omega : T222.heap.size ≤ T231.heap.size) (v := some (.int (1 : Int32))) (fun h => by rw [Bd.returns] at h; cases h)
        refine ⟨_, _, pre228 _ ?_, hrun, hended, _, _, rfl, ?_, rE1, rE2, rE3, rE4.mono (by decide) (by decide)⟩
        · show Steps p.tables e below (T222.setTop (mkF m 126 #[.val (.int p0), .val (.int p1), .val (.int p2), .val (.int p3), .val (.int (p1 &&& (3 : Int32))), .val (.int p0), .val (.ref r_175), .val (.ref b176), .val (.ref b188), .val (.ref b199), .val (.ref b207), .val (.ref b218), .unset] [(.int (-1 : Int32)), (.int p0)])) _
          refine XS.icmpYes X222.here hx rfl (pc0 := 126) (pc' := 135) rfl (hb hby at_126) rfl (tlt (hc229 : p0 < (-1 : Int32))).1 (by decide) (by decide) ?_
          show Steps p.tables e below (T222.setTop (mkF m 135 #[.val (.int p0), .val (.int p1), .val (.int p2), .val (.int p3), .val (.int (p1 &&& (3 : Int32))), .val (.int p0), .val (.ref r_175), .val (.ref b176), .val (.ref b188), .val (.ref b199), .val (.ref b207), .val (.ref b218), .unset] [])) _
          refine XS.iconst X222.here hx rfl (hb hby at_135) ?_
          show Steps p.tables e below (T222.setTop (mkF m 136 #[.val (.int p0), .val (.int p1), .val (.int p2), .val (.int p3), .val (.int (p1 &&& (3 : Int32))), .val (.int p0), .val (.ref r_175), .val (.ref b176), .val (.ref b188), .val (.ref b199), .val (.ref b207), .val (.ref b218), .unset] [(.int (1 : Int32))])) _
          refine XS.goto X222.here hx rfl (pc0 := 136) (pc' := 140) rfl (hb hby at_136) (by decide) (by decide) ?_
          show Steps p.tables e below (T222.setTop (mkF m 140 #[.val (.int p0), .val (.int p1), .val (.int p2), .val (.int p3), .val (.int (p1 &&& (3 : Int32))), .val (.int p0), .val (.ref r_175), .val (.ref b176), .val (.ref b188), .val (.ref b199), .val (.ref b207), .val (.ref b218), .unset] [(.int (1 : Int32))])) _
          refine XS.istore X222.here hx rfl (hb hby at_140) rfl (l' := #[.val (.int p0), .val (.int p1), .val (.int p2), .val (.int p3), .val (.int (p1 &&& (3 : Int32))), .val (.int p0), .val (.ref r_175), .val (.ref b176), .val (.ref b188), .val (.ref b199), .val (.ref b207), .val (.ref b218), .val (.int (1 : Int32))]) rfl ?_
          show Steps p.tables e below (T222.setTop (mkF m 142 #[.val (.int p0), .val (.int p1), .val (.int p2), .val (.int p3), .val (.int (p1 &&& (3 : Int32))), .val (.int p0), .val (.ref r_175), .val (.ref b176), .val (.ref b188), .val (.ref b199), .val (.ref b207), .val (.ref b218), .val (.int (1 : Int32))] [])) _
          refine XS.aload X222.here hx rfl (hb hby at_142) rfl rfl ?_
          show Steps p.tables e below (T222.setTop (mkF m 144 #[.val (.int p0), .val (.int p1), .val (.int p2), .val (.int p3), .val (.int (p1 &&& (3 : Int32))), .val (.int p0), .val (.ref r_175), .val (.ref b176), .val (.ref b188), .val (.ref b199), .val (.ref b207), .val (.ref b218), .val (.int (1 : Int32))] [(.ref b218)])) _
          refine st230.trans ?_
          show Steps p.tables e below (T230.setTop (mkF m 147 #[.val (.int p0), .val (.int p1), .val (.int p2), .val (.int p3), .val (.int (p1 &&& (3 : Int32))), .val (.int p0), .val (.ref r_175), .val (.ref b176), .val (.ref b188), .val (.ref b199), .val (.ref b207), .val (.ref b218), .val (.int (1 : Int32))] [(.int (bi (¬ (p0 = (-1 : Int32)))))])) _
          refine XS.iload X230.here hx rfl (hb hby at_147) rfl ?_
          show Steps p.tables e below (T230.setTop (mkF m 149 #[.val (.int p0), .val (.int p1), .val (.int p2), .val (.int p3), .val (.int (p1 &&& (3 : Int32))), .val (.int p0), .val (.ref r_175), .val (.ref b176), .val (.ref b188), .val (.ref b199), .val (.ref b207), .val (.ref b218), .val (.int (1 : Int32))] [(.int (1 : Int32)), (.int (bi (¬ (p0 = (-1 : Int32)))))])) _
          refine XS.icmpNo X230.here hx rfl (hb hby at_149) rfl (teq ((bi_t (own_lt hc229)) : (bi (¬ (p0 = (-1 : Int32)))) = (1 : Int32))).2 ?_
          show Steps p.tables e below (T230.setTop (mkF m 152 #[.val (.int p0), .val (.int p1), .val (.int p2), .val (.int p3), .val (.int (p1 &&& (3 : Int32))), .val (.int p0), .val (.ref r_175), .val (.ref b176), .val (.ref b188), .val (.ref b199), .val (.ref b207), .val (.ref b218), .val (.int (1 : Int32))] [])) _
          refine XS.aload X230.here hx rfl (hb hby at_152) rfl rfl ?_
          show Steps p.tables e below (T230.setTop (mkF m 154 #[.val (.int p0), .val (.int p1), .val (.int p2), .val (.int p3), .val (.int (p1 &&& (3 : Int32))), .val (.int p0), .val (.ref r_175), .val (.ref b176), .val (.ref b188), .val (.ref b199), .val (.ref b207), .val (.ref b218), .val (.int (1 : Int32))] [(.ref b218)])) _
          refine st231.trans ?_
          show Steps p.tables e below (T231.setTop (mkF m 157 #[.val (.int p0), .val (.int p1), .val (.int p2), .val (.int p3), .val (.int (p1 &&& (3 : Int32))), .val (.int p0), .val (.ref r_175), .val (.ref b176), .val (.ref b188), .val (.ref b199), .val (.ref b207), .val (.ref b218), .val (.int (1 : Int32))] [(.int p0)])) _
          refine XS.iload X231.here hx rfl (hb hby at_157) rfl ?_
          show Steps p.tables e below (T231.setTop (mkF m 159 #[.val (.int p0), .val (.int p1), .val (.int p2), .val (.int p3), .val (.int (p1 &&& (3 : Int32))), .val (.int p0), .val (.ref r_175), .val (.ref b176), .val (.ref b188), .val (.ref b199), .val (.ref b207), .val (.ref b218), .val (.int (1 : Int32))] [(.int p0), (.int p0)])) _
          refine XS.icmpNo X231.here hx rfl (hb hby at_159) rfl (teq (rfl : p0 = p0)).2 ?_
          show Steps p.tables e below (T231.setTop (mkF m 162 #[.val (.int p0), .val (.int p1), .val (.int p2), .val (.int p3), .val (.int (p1 &&& (3 : Int32))), .val (.int p0), .val (.ref r_175), .val (.ref b176), .val (.ref b188), .val (.ref b199), .val (.ref b207), .val (.ref b218), .val (.int (1 : Int32))] [])) _
          refine XS.iconst X231.here hx rfl (hb hby at_162) ?_
          show Steps p.tables e below (T231.setTop (mkF m 163 #[.val (.int p0), .val (.int p1), .val (.int p2), .val (.int p3), .val (.int (p1 &&& (3 : Int32))), .val (.int p0), .val (.ref r_175), .val (.ref b176), .val (.ref b188), .val (.ref b199), .val (.ref b207), .val (.ref b218), .val (.int (1 : Int32))] [(.int (1 : Int32))])) _
          refine XS.goto X231.here hx rfl (pc0 := 163) (pc' := 167) rfl (hb hby at_163) (by decide) (by decide) ?_
          show Steps p.tables e below (T231.setTop (mkF m 167 #[.val (.int p0), .val (.int p1), .val (.int p2), .val (.int p3), .val (.int (p1 &&& (3 : Int32))), .val (.int p0), .val (.ref r_175), .val (.ref b176), .val (.ref b188), .val (.ref b199), .val (.ref b207), .val (.ref b218), .val (.int (1 : Int32))] [(.int (1 : Int32))])) _
          exact retN X231 hx (t := .boolean) Bd.returns (by simp) (hb hby at_167) hr
        · show Qrm0 Z p0 p1 p2 p3 w0 w1 w2 w3 G1 h0 n0 _ T231.heap _
          rw [e231]
          exact ⟨rfl, N231, KC225⟩
      · have pre233 : ∀ t, Steps p.tables e below (T222.setTop (mkF m 132 #[.val (.int p0), .val (.int p1), .val (.int p2), .val (.int p3), .val (.int (p1 &&& (3 : Int32))), .val (.int p0), .val (.ref r_175), .val (.ref b176), .val (.ref b188), .val (.ref b199), .val (.ref b207), .val (.ref b218), .unset] [(.int (-1 : Int32)), (.int p0)])) t → Steps p.tables e below (s₁.setTop (entryFrame m #[(.int p0), (.int p1), (.int p2), (.int p3)] maxLocals)) t := fun t k => by
          refine pre228 _ ?_
          show Steps p.tables e below (T222.setTop (mkF m 126 #[.val (.int p0), .val (.int p1), .val (.int p2), .val (.int p3), .val (.int (p1 &&& (3 : Int32))), .val (.int p0), .val (.ref r_175), .val (.ref b176), .val (.ref b188), .val (.ref b199), .val (.ref b207), .val (.ref b218), .unset] [(.int (-1 : Int32)), (.int p0)])) _
          refine XS.icmpNo X222.here hx rfl (hb hby at_126) rfl (flt (hc229 : ¬ (p0 < (-1 : Int32)))).1 ?_
          show Steps p.tables e below (T222.setTop (mkF m 129 #[.val (.int p0), .val (.int p1), .val (.int p2), .val (.int p3), .val (.int (p1 &&& (3 : Int32))), .val (.int p0), .val (.ref r_175), .val (.ref b176), .val (.ref b188), .val (.ref b199), .val (.ref b207), .val (.ref b218), .unset] [])) _
          refine XS.iload X222.here hx rfl (hb hby at_129) rfl ?_
          show Steps p.tables e below (T222.setTop (mkF m 131 #[.val (.int p0), .val (.int p1), .val (.int p2), .val (.int p3), .val (.int (p1 &&& (3 : Int32))), .val (.int p0), .val (.ref r_175), .val (.ref b176), .val (.ref b188), .val (.ref b199), .val (.ref b207), .val (.ref b218), .unset] [(.int p0)])) _
          refine XS.iconst X222.here hx rfl (hb hby at_131) ?_
          exact k
        by_cases hc234 : (-1 : Int32) < p0
        · obtain ⟨cq235, kq235, qa235, qb235, qc235⟩ := isOf hZ222 rfl P222_0
          obtain ⟨_, _, ⟨T235, L235, k235, n235⟩, -, X235, ⟨Lc235, hQ235, l235, y235, z235⟩, st235⟩ := X222.virtualBack hx (y := (⟨"com/example/nestor/nestor/core/Occurrence", "hasLine", "()Z"⟩ : MethodName)) (z := (⟨"com/example/nestor/nestor/core/Occurrence", "hasLine", "()Z"⟩ : MethodName)) hw222 (mvT hZ222 (hw _ (List.mem_of_getElem? (i := 66) rfl))) (mvT hZ222 (hw _ (List.mem_of_getElem? (i := 67) rfl))) (notFace_of_selects (args := #[]) (mvT hZ222 (hw _ (List.mem_of_getElem? (i := 69) rfl)))) (mvT hZ222 (hw _ (List.mem_of_getElem? (i := 69) rfl))) (mvT hZ222 (hw _ (List.mem_of_getElem? (i := 68) rfl))) (by decide) (backOf (W := 0) (rm11 l Z a0 hw [] b218 p0 T222.heap n0 (by omega) P222_1) hZ222 (hw _ (List.mem_of_getElem? (i := 70) rfl)) (hw _ (List.mem_of_getElem? (i := 39) rfl)) (by decide) (by decide)) qa235 qc235 (g := (mkF m 144 #[.val (.int p0), .val (.int p1), .val (.int p2), .val (.int p3), .val (.int (p1 &&& (3 : Int32))), .val (.int p0), .val (.ref r_175), .val (.ref b176), .val (.ref b188), .val (.ref b199), .val (.ref b207), .val (.ref b218), .val (.int (1 : Int32))] [(.ref b218)])) rfl (by rw [hml]; rfl) (Steps.refl _) (argsL := []) (rest := []) (lenOf pd_5 rfl) rfl (by show 2 * 0 + _ ≤ _; exact Nat.le_of_eq rfl) (hb hby at_144) (fun _ _ => ⟨rfl, rfl, (by decide : 13 + 0 ≤ _), (by decide : 94 + 0 ≤ _)⟩)
          dsimp only [Pt.U, Pt.locs, Pt.cells, Pt.slots] at X235 l235 y235 z235 st235 hQ235
          subst l235 y235 z235
          obtain ⟨rfl, N235q, e235⟩ := hQ235
          have N235 := Fr.app N222 N235q
          obtain ⟨cq236, kq236, qa236, qb236, qc236⟩ := isOf hZ222 e235 P222_0
          obtain ⟨_, _, ⟨T236, L236, k236, n236⟩, -, X236, ⟨Lc236, hQ236, l236, y236, z236⟩, st236⟩ := X235.virtualBack hx (y := (⟨"com/example/nestor/nestor/core/Occurrence", "line", "()I"⟩ : MethodName)) (z := (⟨"com/example/nestor/nestor/core/Occurrence", "line", "()I"⟩ : MethodName)) hw222 (mvT hZ222 (hw _ (List.mem_of_getElem? (i := 71) rfl))) (mvT hZ222 (hw _ (List.mem_of_getElem? (i := 72) rfl))) (notFace_of_selects (args := #[]) (mvT hZ222 (hw _ (List.mem_of_getElem? (i := 74) rfl)))) (mvT hZ222 (hw _ (List.mem_of_getElem? (i := 74) rfl))) (mvT hZ222 (hw _ (List.mem_of_getElem? (i := 73) rfl))) (by decide) (backOf (W := 0) (rm12 l Z a0 hw [] b218 p0 T222.heap n0 (by omega) P222_1) hZ222 (hw _ (List.mem_of_getElem? (i := 75) rfl)) (hw _ (List.mem_of_getElem? (i := 39) rfl)) (by decide) (by decide)) qa236 qc236 (g := (mkF m 154 #[.val (.int p0), .val (.int p1), .val (.int p2), .val (.int p3), .val (.int (p1 &&& (3 : Int32))), .val (.int p0), .val (.ref r_175), .val (.ref b176), .val (.ref b188), .val (.ref b199), .val (.ref b207), .val (.ref b218), .val (.int (1 : Int32))] [(.ref b218)])) rfl (by rw [hml]; rfl) (Steps.refl _) (argsL := []) (rest := []) (lenOf pd_6 rfl) rfl (by show 2 * 0 + _ ≤ _; exact Nat.le_of_eq rfl) (hb hby at_154) (fun _ _ => ⟨rfl, e235, (by decide : 13 + 0 ≤ _), (by decide : 94 + 0 ≤ _)⟩)
          dsimp only [Pt.U, Pt.locs, Pt.cells, Pt.slots] at X236 l236 y236 z236 st236 hQ236
          subst l236 y236 z236
          obtain ⟨rfl, N236q, e236⟩ := hQ236
          have N236 := Fr.app N235 N236q
          have z237 := congrArg Array.size e236
          obtain ⟨fs, hr, hrun, hended, rE1, rE2, rE3, rE4⟩ := leaveW (s := s) (vm₁ := T222.vm) X236 hS222 (by omega : T222.heap.size ≤ T236.heap.size) (v := some (.int (1 : Int32))) (fun h => by rw [Bd.returns] at h; cases h)
          refine ⟨_, _, pre233 _ ?_, hrun, hended, _, _, rfl, ?_, rE1, rE2, rE3, rE4.mono (by decide) (by decide)⟩
          · show Steps p.tables e below (T222.setTop (mkF m 132 #[.val (.int p0), .val (.int p1), .val (.int p2), .val (.int p3), .val (.int (p1 &&& (3 : Int32))), .val (.int p0), .val (.ref r_175), .val (.ref b176), .val (.ref b188), .val (.ref b199), .val (.ref b207), .val (.ref b218), .unset] [(.int (-1 : Int32)), (.int p0)])) _
            refine XS.icmpNo X222.here hx rfl (hb hby at_132) rfl (tlt (hc234 : (-1 : Int32) < p0)).2.2.2 ?_
            show Steps p.tables e below (T222.setTop (mkF m 135 #[.val (.int p0), .val (.int p1), .val (.int p2), .val (.int p3), .val (.int (p1 &&& (3 : Int32))), .val (.int p0), .val (.ref r_175), .val (.ref b176), .val (.ref b188), .val (.ref b199), .val (.ref b207), .val (.ref b218), .unset] [])) _
            refine XS.iconst X222.here hx rfl (hb hby at_135) ?_
            show Steps p.tables e below (T222.setTop (mkF m 136 #[.val (.int p0), .val (.int p1), .val (.int p2), .val (.int p3), .val (.int (p1 &&& (3 : Int32))), .val (.int p0), .val (.ref r_175), .val (.ref b176), .val (.ref b188), .val (.ref b199), .val (.ref b207), .val (.ref b218), .unset] [(.int (1 : Int32))])) _
            refine XS.goto X222.here hx rfl (pc0 := 136) (pc' := 140) rfl (hb hby at_136) (by decide) (by decide) ?_
            show Steps p.tables e below (T222.setTop (mkF m 140 #[.val (.int p0), .val (.int p1), .val (.int p2), .val (.int p3), .val (.int (p1 &&& (3 : Int32))), .val (.int p0), .val (.ref r_175), .val (.ref b176), .val (.ref b188), .val (.ref b199), .val (.ref b207), .val (.ref b218), .unset] [(.int (1 : Int32))])) _
            refine XS.istore X222.here hx rfl (hb hby at_140) rfl (l' := #[.val (.int p0), .val (.int p1), .val (.int p2), .val (.int p3), .val (.int (p1 &&& (3 : Int32))), .val (.int p0), .val (.ref r_175), .val (.ref b176), .val (.ref b188), .val (.ref b199), .val (.ref b207), .val (.ref b218), .val (.int (1 : Int32))]) rfl ?_
            show Steps p.tables e below (T222.setTop (mkF m 142 #[.val (.int p0), .val (.int p1), .val (.int p2), .val (.int p3), .val (.int (p1 &&& (3 : Int32))), .val (.int p0), .val (.ref r_175), .val (.ref b176), .val (.ref b188), .val (.ref b199), .val (.ref b207), .val (.ref b218), .val (.int (1 : Int32))] [])) _
            refine XS.aload X222.here hx rfl (hb hby at_142) rfl rfl ?_
            show Steps p.tables e below (T222.setTop (mkF m 144 #[.val (.int p0), .val (.int p1), .val (.int p2), .val (.int p3), .val (.int (p1 &&& (3 : Int32))), .val (.int p0), .val (.ref r_175), .val (.ref b176), .val (.ref b188), .val (.ref b199), .val (.ref b207), .val (.ref b218), .val (.int (1 : Int32))] [(.ref b218)])) _
            refine st235.trans ?_
            show Steps p.tables e below (T235.setTop (mkF m 147 #[.val (.int p0), .val (.int p1), .val (.int p2), .val (.int p3), .val (.int (p1 &&& (3 : Int32))), .val (.int p0), .val (.ref r_175), .val (.ref b176), .val (.ref b188), .val (.ref b199), .val (.ref b207), .val (.ref b218), .val (.int (1 : Int32))] [(.int (bi (¬ (p0 = (-1 : Int32)))))])) _
            refine XS.iload X235.here hx rfl (hb hby at_147) rfl ?_
            show Steps p.tables e below (T235.setTop (mkF m 149 #[.val (.int p0), .val (.int p1), .val (.int p2), .val (.int p3), .val (.int (p1 &&& (3 : Int32))), .val (.int p0), .val (.ref r_175), .val (.ref b176), .val (.ref b188), .val (.ref b199), .val (.ref b207), .val (.ref b218), .val (.int (1 : Int32))] [(.int (1 : Int32)), (.int (bi (¬ (p0 = (-1 : Int32)))))])) _
            refine XS.icmpNo X235.here hx rfl (hb hby at_149) rfl (teq ((bi_t (own_gt hc234)) : (bi (¬ (p0 = (-1 : Int32)))) = (1 : Int32))).2 ?_
            show Steps p.tables e below (T235.setTop (mkF m 152 #[.val (.int p0), .val (.int p1), .val (.int p2), .val (.int p3), .val (.int (p1 &&& (3 : Int32))), .val (.int p0), .val (.ref r_175), .val (.ref b176), .val (.ref b188), .val (.ref b199), .val (.ref b207), .val (.ref b218), .val (.int (1 : Int32))] [])) _
            refine XS.aload X235.here hx rfl (hb hby at_152) rfl rfl ?_
            show Steps p.tables e below (T235.setTop (mkF m 154 #[.val (.int p0), .val (.int p1), .val (.int p2), .val (.int p3), .val (.int (p1 &&& (3 : Int32))), .val (.int p0), .val (.ref r_175), .val (.ref b176), .val (.ref b188), .val (.ref b199), .val (.ref b207), .val (.ref b218), .val (.int (1 : Int32))] [(.ref b218)])) _
            refine st236.trans ?_
            show Steps p.tables e below (T236.setTop (mkF m 157 #[.val (.int p0), .val (.int p1), .val (.int p2), .val (.int p3), .val (.int (p1 &&& (3 : Int32))), .val (.int p0), .val (.ref r_175), .val (.ref b176), .val (.ref b188), .val (.ref b199), .val (.ref b207), .val (.ref b218), .val (.int (1 : Int32))] [(.int p0)])) _
            refine XS.iload X236.here hx rfl (hb hby at_157) rfl ?_
            show Steps p.tables e below (T236.setTop (mkF m 159 #[.val (.int p0), .val (.int p1), .val (.int p2), .val (.int p3), .val (.int (p1 &&& (3 : Int32))), .val (.int p0), .val (.ref r_175), .val (.ref b176), .val (.ref b188), .val (.ref b199), .val (.ref b207), .val (.ref b218), .val (.int (1 : Int32))] [(.int p0), (.int p0)])) _
            refine XS.icmpNo X236.here hx rfl (hb hby at_159) rfl (teq (rfl : p0 = p0)).2 ?_
            show Steps p.tables e below (T236.setTop (mkF m 162 #[.val (.int p0), .val (.int p1), .val (.int p2), .val (.int p3), .val (.int (p1 &&& (3 : Int32))), .val (.int p0), .val (.ref r_175), .val (.ref b176), .val (.ref b188), .val (.ref b199), .val (.ref b207), .val (.ref b218), .val (.int (1 : Int32))] [])) _
            refine XS.iconst X236.here hx rfl (hb hby at_162) ?_
            show Steps p.tables e below (T236.setTop (mkF m 163 #[.val (.int p0), .val (.int p1), .val (.int p2), .val (.int p3), .val (.int (p1 &&& (3 : Int32))), .val (.int p0), .val (.ref r_175), .val (.ref b176), .val (.ref b188), .val (.ref b199), .val (.ref b207), .val (.ref b218), .val (.int (1 : Int32))] [(.int (1 : Int32))])) _
            refine XS.goto X236.here hx rfl (pc0 := 163) (pc' := 167) rfl (hb hby at_163) (by decide) (by decide) ?_
            show Steps p.tables e below (T236.setTop (mkF m 167 #[.val (.int p0), .val (.int p1), .val (.int p2), .val (.int p3), .val (.int (p1 &&& (3 : Int32))), .val (.int p0), .val (.ref r_175), .val (.ref b176), .val (.ref b188), .val (.ref b199), .val (.ref b207), .val (.ref b218), .val (.int (1 : Int32))] [(.int (1 : Int32))])) _
            exact retN X236 hx (t := .boolean) Bd.returns (by simp) (hb hby at_167) hr
          · show Qrm0 Z p0 p1 p2 p3 w0 w1 w2 w3 G1 h0 n0 _ T236.heap _
            rw [e236]
            exact ⟨rfl, N236, KC225⟩
        · obtain ⟨cq238, kq238, qa238, qb238, qc238⟩ := isOf hZ222 rfl P222_0
          obtain ⟨_, _, ⟨T238, L238, k238, n238⟩, -, X238, ⟨Lc238, hQ238, l238, y238, z238⟩, st238⟩ := X222.virtualBack hx (y := (⟨"com/example/nestor/nestor/core/Occurrence", "hasLine", "()Z"⟩ : MethodName)) (z := (⟨"com/example/nestor/nestor/core/Occurrence", "hasLine", "()Z"⟩ : MethodName)) hw222 (mvT hZ222 (hw _ (List.mem_of_getElem? (i := 66) rfl))) (mvT hZ222 (hw _ (List.mem_of_getElem? (i := 67) rfl))) (notFace_of_selects (args := #[]) (mvT hZ222 (hw _ (List.mem_of_getElem? (i := 69) rfl)))) (mvT hZ222 (hw _ (List.mem_of_getElem? (i := 69) rfl))) (mvT hZ222 (hw _ (List.mem_of_getElem? (i := 68) rfl))) (by decide) (backOf (W := 0) (rm11 l Z a0 hw [] b218 p0 T222.heap n0 (by omega) P222_1) hZ222 (hw _ (List.mem_of_getElem? (i := 70) rfl)) (hw _ (List.mem_of_getElem? (i := 39) rfl)) (by decide) (by decide)) qa238 qc238 (g := (mkF m 144 #[.val (.int p0), .val (.int p1), .val (.int p2), .val (.int p3), .val (.int (p1 &&& (3 : Int32))), .val (.int p0), .val (.ref r_175), .val (.ref b176), .val (.ref b188), .val (.ref b199), .val (.ref b207), .val (.ref b218), .val (.int (0 : Int32))] [(.ref b218)])) rfl (by rw [hml]; rfl) (Steps.refl _) (argsL := []) (rest := []) (lenOf pd_5 rfl) rfl (by show 2 * 0 + _ ≤ _; exact Nat.le_of_eq rfl) (hb hby at_144) (fun _ _ => ⟨rfl, rfl, (by decide : 13 + 0 ≤ _), (by decide : 94 + 0 ≤ _)⟩)
          dsimp only [Pt.U, Pt.locs, Pt.cells, Pt.slots] at X238 l238 y238 z238 st238 hQ238
          subst l238 y238 z238
          obtain ⟨rfl, N238q, e238⟩ := hQ238
          have N238 := Fr.app N222 N238q
          obtain ⟨cq239, kq239, qa239, qb239, qc239⟩ := isOf hZ222 e238 P222_0
          obtain ⟨_, _, ⟨T239, L239, k239, n239⟩, -, X239, ⟨Lc239, hQ239, l239, y239, z239⟩, st239⟩ := X238.virtualBack hx (y := (⟨"com/example/nestor/nestor/core/Occurrence", "line", "()I"⟩ : MethodName)) (z := (⟨"com/example/nestor/nestor/core/Occurrence", "line", "()I"⟩ : MethodName)) hw222 (mvT hZ222 (hw _ (List.mem_of_getElem? (i := 71) rfl))) (mvT hZ222 (hw _ (List.mem_of_getElem? (i := 72) rfl))) (notFace_of_selects (args := #[]) (mvT hZ222 (hw _ (List.mem_of_getElem? (i := 74) rfl)))) (mvT hZ222 (hw _ (List.mem_of_getElem? (i := 74) rfl))) (mvT hZ222 (hw _ (List.mem_of_getElem? (i := 73) rfl))) (by decide) (backOf (W := 0) (rm12 l Z a0 hw [] b218 p0 T222.heap n0 (by omega) P222_1) hZ222 (hw _ (List.mem_of_getElem? (i := 75) rfl)) (hw _ (List.mem_of_getElem? (i := 39) rfl)) (by decide) (by decide)) qa239 qc239 (g := (mkF m 154 #[.val (.int p0), .val (.int p1), .val (.int p2), .val (.int p3), .val (.int (p1 &&& (3 : Int32))), .val (.int p0), .val (.ref r_175), .val (.ref b176), .val (.ref b188), .val (.ref b199), .val (.ref b207), .val (.ref b218), .val (.int (0 : Int32))] [(.ref b218)])) rfl (by rw [hml]; rfl) (Steps.refl _) (argsL := []) (rest := []) (lenOf pd_6 rfl) rfl (by show 2 * 0 + _ ≤ _; exact Nat.le_of_eq rfl) (hb hby at_154) (fun _ _ => ⟨rfl, e238, (by decide : 13 + 0 ≤ _), (by decide : 94 + 0 ≤ _)⟩)
          dsimp only [Pt.U, Pt.locs, Pt.cells, Pt.slots] at X239 l239 y239 z239 st239 hQ239
          subst l239 y239 z239
          obtain ⟨rfl, N239q, e239⟩ := hQ239
          have N239 := Fr.app N238 N239q
          have z240 := congrArg Array.size e239
          obtain ⟨fs, hr, hrun, hended, rE1, rE2, rE3, rE4⟩ := leaveW (s := s) (vm₁ := T222.vm) X239 hS222 (by omega : T222.heap.size ≤ T239.heap.size) (v := some (.int (1 : Int32))) (fun h => by rw [Bd.returns] at h; cases h)
          refine ⟨_, _, pre233 _ ?_, hrun, hended, _, _, rfl, ?_, rE1, rE2, rE3, rE4.mono (by decide) (by decide)⟩
          · show Steps p.tables e below (T222.setTop (mkF m 132 #[.val (.int p0), .val (.int p1), .val (.int p2), .val (.int p3), .val (.int (p1 &&& (3 : Int32))), .val (.int p0), .val (.ref r_175), .val (.ref b176), .val (.ref b188), .val (.ref b199), .val (.ref b207), .val (.ref b218), .unset] [(.int (-1 : Int32)), (.int p0)])) _
            refine XS.icmpYes X222.here hx rfl (pc0 := 132) (pc' := 139) rfl (hb hby at_132) rfl (flt (hc234 : ¬ ((-1 : Int32) < p0))).2.2.2 (by decide) (by decide) ?_
            show Steps p.tables e below (T222.setTop (mkF m 139 #[.val (.int p0), .val (.int p1), .val (.int p2), .val (.int p3), .val (.int (p1 &&& (3 : Int32))), .val (.int p0), .val (.ref r_175), .val (.ref b176), .val (.ref b188), .val (.ref b199), .val (.ref b207), .val (.ref b218), .unset] [])) _
            refine XS.iconst X222.here hx rfl (hb hby at_139) ?_
            show Steps p.tables e below (T222.setTop (mkF m 140 #[.val (.int p0), .val (.int p1), .val (.int p2), .val (.int p3), .val (.int (p1 &&& (3 : Int32))), .val (.int p0), .val (.ref r_175), .val (.ref b176), .val (.ref b188), .val (.ref b199), .val (.ref b207), .val (.ref b218), .unset] [(.int (0 : Int32))])) _
            refine XS.istore X222.here hx rfl (hb hby at_140) rfl (l' := #[.val (.int p0), .val (.int p1), .val (.int p2), .val (.int p3), .val (.int (p1 &&& (3 : Int32))), .val (.int p0), .val (.ref r_175), .val (.ref b176), .val (.ref b188), .val (.ref b199), .val (.ref b207), .val (.ref b218), .val (.int (0 : Int32))]) rfl ?_
            show Steps p.tables e below (T222.setTop (mkF m 142 #[.val (.int p0), .val (.int p1), .val (.int p2), .val (.int p3), .val (.int (p1 &&& (3 : Int32))), .val (.int p0), .val (.ref r_175), .val (.ref b176), .val (.ref b188), .val (.ref b199), .val (.ref b207), .val (.ref b218), .val (.int (0 : Int32))] [])) _
            refine XS.aload X222.here hx rfl (hb hby at_142) rfl rfl ?_
            show Steps p.tables e below (T222.setTop (mkF m 144 #[.val (.int p0), .val (.int p1), .val (.int p2), .val (.int p3), .val (.int (p1 &&& (3 : Int32))), .val (.int p0), .val (.ref r_175), .val (.ref b176), .val (.ref b188), .val (.ref b199), .val (.ref b207), .val (.ref b218), .val (.int (0 : Int32))] [(.ref b218)])) _
            refine st238.trans ?_
            show Steps p.tables e below (T238.setTop (mkF m 147 #[.val (.int p0), .val (.int p1), .val (.int p2), .val (.int p3), .val (.int (p1 &&& (3 : Int32))), .val (.int p0), .val (.ref r_175), .val (.ref b176), .val (.ref b188), .val (.ref b199), .val (.ref b207), .val (.ref b218), .val (.int (0 : Int32))] [(.int (bi (¬ (p0 = (-1 : Int32)))))])) _
            refine XS.iload X238.here hx rfl (hb hby at_147) rfl ?_
            show Steps p.tables e below (T238.setTop (mkF m 149 #[.val (.int p0), .val (.int p1), .val (.int p2), .val (.int p3), .val (.int (p1 &&& (3 : Int32))), .val (.int p0), .val (.ref r_175), .val (.ref b176), .val (.ref b188), .val (.ref b199), .val (.ref b207), .val (.ref b218), .val (.int (0 : Int32))] [(.int (0 : Int32)), (.int (bi (¬ (p0 = (-1 : Int32)))))])) _
            refine XS.icmpNo X238.here hx rfl (hb hby at_149) rfl (teq ((bi_f (not_not_intro (own_mid hc229 hc234))) : (bi (¬ (p0 = (-1 : Int32)))) = (0 : Int32))).2 ?_
            show Steps p.tables e below (T238.setTop (mkF m 152 #[.val (.int p0), .val (.int p1), .val (.int p2), .val (.int p3), .val (.int (p1 &&& (3 : Int32))), .val (.int p0), .val (.ref r_175), .val (.ref b176), .val (.ref b188), .val (.ref b199), .val (.ref b207), .val (.ref b218), .val (.int (0 : Int32))] [])) _
            refine XS.aload X238.here hx rfl (hb hby at_152) rfl rfl ?_
            show Steps p.tables e below (T238.setTop (mkF m 154 #[.val (.int p0), .val (.int p1), .val (.int p2), .val (.int p3), .val (.int (p1 &&& (3 : Int32))), .val (.int p0), .val (.ref r_175), .val (.ref b176), .val (.ref b188), .val (.ref b199), .val (.ref b207), .val (.ref b218), .val (.int (0 : Int32))] [(.ref b218)])) _
            refine st239.trans ?_
            show Steps p.tables e below (T239.setTop (mkF m 157 #[.val (.int p0), .val (.int p1), .val (.int p2), .val (.int p3), .val (.int (p1 &&& (3 : Int32))), .val (.int p0), .val (.ref r_175), .val (.ref b176), .val (.ref b188), .val (.ref b199), .val (.ref b207), .val (.ref b218), .val (.int (0 : Int32))] [(.int p0)])) _
            refine XS.iload X239.here hx rfl (hb hby at_157) rfl ?_
            show Steps p.tables e below (T239.setTop (mkF m 159 #[.val (.int p0), .val (.int p1), .val (.int p2), .val (.int p3), .val (.int (p1 &&& (3 : Int32))), .val (.int p0), .val (.ref r_175), .val (.ref b176), .val (.ref b188), .val (.ref b199), .val (.ref b207), .val (.ref b218), .val (.int (0 : Int32))] [(.int p0), (.int p0)])) _
            refine XS.icmpNo X239.here hx rfl (hb hby at_159) rfl (teq (rfl : p0 = p0)).2 ?_
            show Steps p.tables e below (T239.setTop (mkF m 162 #[.val (.int p0), .val (.int p1), .val (.int p2), .val (.int p3), .val (.int (p1 &&& (3 : Int32))), .val (.int p0), .val (.ref r_175), .val (.ref b176), .val (.ref b188), .val (.ref b199), .val (.ref b207), .val (.ref b218), .val (.int (0 : Int32))] [])) _
            refine XS.iconst X239.here hx rfl (hb hby at_162) ?_
            show Steps p.tables e below (T239.setTop (mkF m 163 #[.val (.int p0), .val (.int p1), .val (.int p2), .val (.int p3), .val (.int (p1 &&& (3 : Int32))), .val (.int p0), .val (.ref r_175), .val (.ref b176), .val (.ref b188), .val (.ref b199), .val (.ref b207), .val (.ref b218), .val (.int (0 : Int32))] [(.int (1 : Int32))])) _
            refine XS.goto X239.here hx rfl (pc0 := 163) (pc' := 167) rfl (hb hby at_163) (by decide) (by decide) ?_
            show Steps p.tables e below (T239.setTop (mkF m 167 #[.val (.int p0), .val (.int p1), .val (.int p2), .val (.int p3), .val (.int (p1 &&& (3 : Int32))), .val (.int p0), .val (.ref r_175), .val (.ref b176), .val (.ref b188), .val (.ref b199), .val (.ref b207), .val (.ref b218), .val (.int (0 : Int32))] [(.int (1 : Int32))])) _
            exact retN X239 hx (t := .boolean) Bd.returns (by simp) (hb hby at_167) hr
          · show Qrm0 Z p0 p1 p2 p3 w0 w1 w2 w3 G1 h0 n0 _ T239.heap _
            rw [e239]
            exact ⟨rfl, N239, KC225⟩
set_option maxRecDepth 65536 in
set_option maxHeartbeats 40000000 in
theorem comes_1 {Post : Tables → Env → Array Value → State → Outcome → State → Prop} (hpost : ∀ tb e args s v u, (limb_1_1.after args s (.returned v) u = true ∧ limb_1_2.after args s (.returned v) u = true ∧ True) → ReturnedEndW s (.returned v) u (Jvm.fieldLocs frame_1_writes args s ++ Jvm.arrayLocs frame_1_arrays args s ++ Jvm.staticLocs frame_1_statics s) 32 3200 → Post tb e args s (.returned v) u) :
    ArmFor flags0 classFile x code maxLocals ret World_1 tables_1 room_1 Calls_1 rest_1 Pre_1 Post := by
  intro l hfl _ _ p e ha hc hk s m args below hf hA hF happ hP
  obtain ⟨hcalls, hrest, hpre⟩ := hP
  obtain ⟨-, -, -, hnamed, -, -, -, hat⟩ := (Spec.applies_iff hf).mp happ
  obtain ⟨hg, hn⟩ := and_e (Cond.before_iff.mp (show (Jvm.Cond.and given_1 narrow_1).before args s = true from hpre))
  obtain ⟨gg0, gr0⟩ := and_e hg
  obtain ⟨gg1, gr1⟩ := and_e gr0
  obtain ⟨gg2, gr2⟩ := and_e gr1
  obtain ⟨gg3, gg4⟩ := and_e gr2
  obtain ⟨w0, w1, w2, w3, rfl⟩ : ∃ w0 w1 w2 w3 : Value, args = #[w0, w1, w2, w3] := by
    have hs : args.size = 4 := by simpa [Cond.value, given_1] using gg0
    obtain ⟨L⟩ := args
    match L, hs with
    | [w0, w1, w2, w3], _ => exact ⟨w0, w1, w2, w3, rfl⟩
  have hw := fun d (hd : d ∈ tables_1) => atoms_spec (ws := Jvm.Cond.code x code maxLocals ret :: tables_1) hat d (List.mem_cons_of_mem _ hd)
  have hfit : Fit s := fun {y c} hc i hi => by
    obtain ⟨ha, rfl⟩ := Array.getElem?_eq_some_iff.mp hc
    have q := List.all_eq_true.mp ((Array.all_eq_true_iff_forall_mem.mp hF) _ (Array.getElem_mem ha)) i (List.mem_range.mpr hi)
    simpa [Array.getElem?_eq_getElem hi] using q
  obtain ⟨hsets, hown0⟩ := atoms_of _ (rest_1_c_eq ▸ (show rest_1_c.before _ s = true from hrest))
  obtain ⟨i0, ei0⟩ := is_v gg1
  obtain rfl : w0 = (.int i0) := Option.some.inj ei0
  obtain ⟨i1, ei1⟩ := is_v gg2
  obtain rfl : w1 = (.int i1) := Option.some.inj ei1
  obtain ⟨i2, ei2⟩ := is_v gg3
  obtain rfl : w2 = (.int i2) := Option.some.inj ei2
  obtain ⟨i3, ei3⟩ := is_v gg4
  obtain rfl : w3 = (.int i3) := Option.some.inj ei3
  unfold narrow_1 at hn
  obtain ⟨nw0, nr0⟩ := and_e hn
  obtain ⟨nw1, nr1⟩ := and_e nr0
  obtain ⟨nw2, nw3⟩ := and_e nr1
  obtain ⟨a_CALL, v_CALL⟩ := exa_v nw0
  have E_CALL := Exa.start v_CALL nw0
  have S_CALL := Sta.start v_CALL (Or.inr ⟨(hw _ (List.mem_of_getElem? (i := 5) rfl)), (hw _ (List.mem_of_getElem? (i := 6) rfl))⟩)
  obtain ⟨a_NEW, v_NEW⟩ := exa_v nw1
  have E_NEW := Exa.start v_NEW nw1
  have S_NEW := Sta.start v_NEW (Or.inr ⟨(hw _ (List.mem_of_getElem? (i := 5) rfl)), (hw _ (List.mem_of_getElem? (i := 77) rfl))⟩)
  obtain ⟨a_FIELD_TYPE, v_FIELD_TYPE⟩ := exa_v nw2
  have E_FIELD_TYPE := Exa.start v_FIELD_TYPE nw2
  have S_FIELD_TYPE := Sta.start v_FIELD_TYPE (Or.inr ⟨(hw _ (List.mem_of_getElem? (i := 5) rfl)), (hw _ (List.mem_of_getElem? (i := 79) rfl))⟩)
  obtain ⟨a_EXTENDS, v_EXTENDS⟩ := exa_v nw3
  have E_EXTENDS := Exa.start v_EXTENDS nw3
  have S_EXTENDS := Sta.start v_EXTENDS (Or.inr ⟨(hw _ (List.mem_of_getElem? (i := 5) rfl)), (hw _ (List.mem_of_getElem? (i := 81) rfl))⟩)
  obtain ⟨G1, vG1⟩ := is_v (Cond.before_iff.mp (hsets _ (List.mem_of_getElem? (i := 1) rfl)))
  have S_COMPACT := Sta.start vG1 (Or.inl (hsets _ (List.mem_of_getElem? (i := 0) rfl)))
  have hG1 : ¬ (G1 = (0 : Int32)) := gotF (Cond.eq_ints vG1 (Term.int_eval 0)) (not_v (Cond.before_iff.mp (hsets _ (List.mem_of_getElem? (i := 2) rfl))))
  obtain ⟨n, o, h1, h2, h3, _, L, rfl, ⟨rfl, N, -⟩, hq⟩ := rm0 l s _ hw tables_1 i0 i1 i2 i3 a_CALL a_NEW a_FIELD_TYPE a_EXTENDS G1 s.heap s.heap.size (Nat.le_refl _) S_CALL S_NEW S_FIELD_TYPE S_EXTENDS S_COMPACT hG1 p e ha hc hk s m _ below hf ((Spec.applies_iff_loose hf).mp happ).1 ⟨rfl, State.Warmed39.refl s, rfl⟩ trivial
  exact ⟨n, _, h1, h2, h3, hpost _ _ _ _ _ _ ⟨Cond.after_iff.mpr rfl, Cond.after_iff.mpr (eq_i res_at (Term.int_eval (1)) rfl), trivial⟩ ⟨hq.1, hq.2.1, hq.2.2.1, (hq.2.2.2.sift fun y hy => Or.inr (N y hy)).mono (by decide) (by decide)⟩⟩
theorem main_1_1 : Claimed_1_1 := comes_1 fun _ _ _ _ _ _ h hF => ⟨h.1, hF⟩
theorem main_1_2 : Claimed_1_2 := comes_1 fun _ _ _ _ _ _ h hF => ⟨h.2.1, hF⟩
end Jvm.Pilot.@@N@@
namespace Jvm.Pilot.@@N@@
open Jvm Jvm.ClassFile Sem Op Lib Jvm.Free Jvm.Stand Jvm.Pilot.@@N@@.Jvm.D
/-! MADE BY PROGRAM (witnessworld.py) out of the Statement's table words and the real class files: 24 classes; the members and pool entries that the words name. The judged class is class 1, her method 2. -/
namespace start1
open Jvm.ClassFile
def u (s : String) : CpInfo := .utf8 (stringToUtf16 s)
/-- a pool by its gaps: so many unusable entries, then the entry; so many at the end -/
def gap : Nat → List CpInfo → List CpInfo
  | 0, r => r
  | n + 1, r => .unusable :: gap n r
def poolList (es : List (Nat × CpInfo)) (last : Nat) : List CpInfo := es.foldr (fun e r => gap e.1 (e.2 :: r)) (gap last [])
def pool (es : List (Nat × CpInfo)) (last : Nat) : Array CpInfo := ⟨poolList es last⟩
def fileOf (pool : Array CpInfo) (this : Nat) (attrs : Array Attribute := #[]) (ms : Array MethodInfo := #[]) (fl : Nat := 33) (sup : Nat := 0) (ifs : Array Nat := #[]) (fds : Array FieldInfo := #[]) : ClassFile where
  minorVersion := 0
  majorVersion := 65
  constantPool := pool
  accessFlags := fl
  thisClass := this
  superClass := sup
  interfaces := ifs
  fields := fds
  methods := ms
  attributes := attrs
def plain (name : String) (sup : Option ClassId) : Class where
  name := name
  kind := .ordinary
  loader := none
  accessFlags := 33
  super := sup
  interfaces := #[]
  cf := none
  fields := #[]
  methods := #[]
  instanceTypes := #[]
  staticTypes := #[]
  resolved := #[]
  callSites := []
  init := .initialized
  statics := none
  mirror := none

def pool0 : Array CpInfo := pool [(5, u "<init>"), (0, u "()V"), (1, .class_ 10), (1, u "java/lang/Object")] 113

def k0c0 : Code := { maxStack := 0, maxLocals := 1, code := object_method_1_code, exceptionTable := #[], attributes := #[] }
def k0m0 : Method := { name := "<init>", desc := "()V", sig := { parameters := [], returnType := none }, accessFlags := 1, code := some k0c0 }
/-- java/lang/Object -/
def k0 : Class := { plain "java/lang/Object" none with
  accessFlags := 33
  interfaces := #[]
  cf := some (fileOf pool0 8 #[] #[{ accessFlags := 1, nameIndex := 5, descriptorIndex := 6, attributes := #[] }] 33 0 #[] #[])
  fields := #[]
  methods := #[k0m0]
  instanceTypes := #[]
  staticTypes := #[]
  resolved := Array.replicate 124 none
  statics := none }

def pool1 : Array CpInfo := pool [(2, .class_ 4), (1, u "java/lang/Object"), (0, u "<init>"), (0, u "()V"), (0, .fieldref 8 9), (0, .class_ 10), (0, .nameAndType 11 12), (0, u "com/example/nestor/nestor/model/UseKind"), (0, u "CALL"), (0, u "Lcom/example/nestor/nestor/model/UseKind;"), (0, .fieldref 8 14), (0, .nameAndType 15 12), (0, u "NEW"), (0, .fieldref 8 17), (0, .nameAndType 18 12), (0, u "FIELD_TYPE"), (0, .fieldref 8 20), (0, .nameAndType 21 12), (0, u "EXTENDS"), (0, .methodref 23 24), (0, .class_ 25), (0, .nameAndType 26 27), (0, u "com/example/nestor/nestor/core/OccurrenceHasLinePinLaw"), (0, u "kindOf"), (0, u "(I)Lcom/example/nestor/nestor/model/UseKind;"), (0, .class_ 29), (0, u "java/lang/String"), (0, .methodref 28 31), (0, .nameAndType 5 32), (0, u "([C)V"), (0, .class_ 34), (0, u "com/example/nestor/nestor/core/Occurrence"), (0, .methodref 33 36), (0, .nameAndType 5 37), (0, u "(Ljava/lang/String;ILcom/example/nestor/nestor/model/UseKind;Ljava/lang/String;)V"), (0, .methodref 33 39), (0, .nameAndType 40 41), (0, u "hasLine"), (0, u "()Z"), (0, .methodref 33 43), (0, .nameAndType 44 45), (0, u "line"), (0, u "()I"), (3, u "law"), (0, u "(IIII)Z")] 4

def k1m0 : Method := { name := "<init>", desc := "()V", sig := { parameters := [], returnType := none }, accessFlags := 1, code := none }
def k1c1 : Code := { maxStack := 2, maxLocals := 1, code := method_2_code, exceptionTable := #[], attributes := #[] }
def k1m1 : Method := { name := "kindOf", desc := "(I)Lcom/example/nestor/nestor/model/UseKind;", sig := { parameters := [.int], returnType := some (.object "com/example/nestor/nestor/model/UseKind") }, accessFlags := 10, code := some k1c1 }
def k1c2 : Code := { maxStack := 6, maxLocals := 13, code := code, exceptionTable := #[], attributes := #[] }
def k1m2 : Method := { name := "law", desc := "(IIII)Z", sig := { parameters := [.int, .int, .int, .int], returnType := some .boolean }, accessFlags := 9, code := some k1c2 }
/-- com/example/nestor/nestor/core/OccurrenceHasLinePinLaw -/
def k1 : Class := { plain "com/example/nestor/nestor/core/OccurrenceHasLinePinLaw" (some 0) with
  accessFlags := 49
  interfaces := #[]
  cf := some (fileOf pool1 23 #[] #[{ accessFlags := 1, nameIndex := 5, descriptorIndex := 6, attributes := #[] }, { accessFlags := 10, nameIndex := 26, descriptorIndex := 27, attributes := #[] }, { accessFlags := 9, nameIndex := 49, descriptorIndex := 50, attributes := #[] }] 49 2 #[] #[])
  fields := #[]
  methods := #[k1m0, k1m1, k1m2]
  instanceTypes := #[]
  staticTypes := #[]
  resolved := Array.replicate 55 none
  statics := none }

def pool2 : Array CpInfo := pool [(1, .class_ 2), (0, u "java/lang/constant/Constable"), (0, .class_ 4), (0, u "java/lang/Object")] 6

/-- java/lang/constant/Constable -/
def k2 : Class := { plain "java/lang/constant/Constable" (some 0) with
  accessFlags := 1537
  interfaces := #[]
  cf := some (fileOf pool2 1 #[] #[] 1537 3 #[] #[])
  fields := #[]
  methods := #[]
  instanceTypes := #[]
  staticTypes := #[]
  resolved := Array.replicate 11 none
  statics := none }

def pool3 : Array CpInfo := pool [(1, .class_ 2), (0, u "java/lang/Comparable"), (0, .class_ 4), (0, u "java/lang/Object")] 7

/-- java/lang/Comparable -/
def k3 : Class := { plain "java/lang/Comparable" (some 0) with
  accessFlags := 1537
  interfaces := #[]
  cf := some (fileOf pool3 1 #[] #[] 1537 3 #[] #[])
  fields := #[]
  methods := #[]
  instanceTypes := #[]
  staticTypes := #[]
  resolved := Array.replicate 12 none
  statics := none }

def pool4 : Array CpInfo := pool [(1, .class_ 2), (0, u "java/io/Serializable"), (0, .class_ 4), (0, u "java/lang/Object")] 2

/-- java/io/Serializable -/
def k4 : Class := { plain "java/io/Serializable" (some 0) with
  accessFlags := 1537
  interfaces := #[]
  cf := some (fileOf pool4 1 #[] #[] 1537 3 #[] #[])
  fields := #[]
  methods := #[]
  instanceTypes := #[]
  staticTypes := #[]
  resolved := Array.replicate 7 none
  statics := none }

def pool5 : Array CpInfo := pool [(2, .class_ 4), (1, u "java/lang/Enum"), (0, u "name"), (0, u "Ljava/lang/String;"), (2, u "ordinal"), (0, u "I"), (1, .class_ 14), (1, u "java/lang/Object"), (4, u "hash"), (86, .class_ 108), (1, u "java/lang/Enum$EnumDesc"), (2, .class_ 112), (0, u "java/lang/constant/Constable"), (0, .class_ 114), (0, u "java/lang/Comparable"), (0, .class_ 116), (0, u "java/io/Serializable")] 87

/-- java/lang/Enum -/
def k5 : Class := { plain "java/lang/Enum" (some 0) with
  accessFlags := 1057
  interfaces := #[2, 3, 4]
  cf := some (fileOf pool5 2 #[.nestMembers #[106]] #[] 1057 12 #[111, 113, 115] #[{ accessFlags := 18, nameIndex := 5, descriptorIndex := 6, attributes := #[] }, { accessFlags := 18, nameIndex := 9, descriptorIndex := 10, attributes := #[] }, { accessFlags := 2, nameIndex := 19, descriptorIndex := 10, attributes := #[] }])
  fields := #[{ name := "name", type := (.object "java/lang/String"), accessFlags := 18, slot := 0, constantValue := 0 }, { name := "ordinal", type := .int, accessFlags := 18, slot := 1, constantValue := 0 }, { name := "hash", type := .int, accessFlags := 2, slot := 2, constantValue := 0 }]
  methods := #[]
  instanceTypes := #[(.object "java/lang/String"), .int, .int]
  staticTypes := #[]
  resolved := Array.replicate 204 none
  statics := none }

def pool6 : Array CpInfo := pool [(1, .class_ 2), (0, u "com/example/nestor/nestor/model/UseKind"), (2, u "EXTENDS"), (0, u "Lcom/example/nestor/nestor/model/UseKind;"), (2, u "IMPLEMENTS"), (2, u "FIELD_TYPE"), (2, u "PARAMETER"), (2, u "RETURN"), (2, u "THROWS"), (2, u "TYPE_ARGUMENT"), (2, u "ANNOTATION"), (2, u "CALL"), (2, u "FIELD_ACCESS"), (2, u "METHOD_REFERENCE"), (2, u "NEW"), (2, u "CAST"), (2, u "INSTANCEOF"), (2, u "CLASS_LITERAL"), (2, u "CATCH"), (2, u "LAMBDA"), (2, u "$VALUES"), (0, u "[Lcom/example/nestor/nestor/model/UseKind;"), (6, .class_ 67), (1, u "java/lang/Enum"), (8, u "word"), (0, u "Ljava/lang/String;"), (2, u "memberOf"), (0, u "Lcom/example/nestor/nestor/model/UseKind$MemberOf;"), (4, .class_ 88), (1, u "com/example/nestor/nestor/model/UseKind$MemberOf")] 79

/-- com/example/nestor/nestor/model/UseKind -/
def k6 : Class := { plain "com/example/nestor/nestor/model/UseKind" (some 5) with
  accessFlags := 16433
  interfaces := #[]
  cf := some (fileOf pool6 1 #[.nestMembers #[86]] #[] 16433 65 #[] #[{ accessFlags := 16409, nameIndex := 5, descriptorIndex := 6, attributes := #[] }, { accessFlags := 16409, nameIndex := 9, descriptorIndex := 6, attributes := #[] }, { accessFlags := 16409, nameIndex := 12, descriptorIndex := 6, attributes := #[] }, { accessFlags := 16409, nameIndex := 15, descriptorIndex := 6, attributes := #[] }, { accessFlags := 16409, nameIndex := 18, descriptorIndex := 6, attributes := #[] }, { accessFlags := 16409, nameIndex := 21, descriptorIndex := 6, attributes := #[] }, { accessFlags := 16409, nameIndex := 24, descriptorIndex := 6, attributes := #[] }, { accessFlags := 16409, nameIndex := 27, descriptorIndex := 6, attributes := #[] }, { accessFlags := 16409, nameIndex := 30, descriptorIndex := 6, attributes := #[] }, { accessFlags := 16409, nameIndex := 33, descriptorIndex := 6, attributes := #[] }, { accessFlags := 16409, nameIndex := 36, descriptorIndex := 6, attributes := #[] }, { accessFlags := 16409, nameIndex := 39, descriptorIndex := 6, attributes := #[] }, { accessFlags := 16409, nameIndex := 42, descriptorIndex := 6, attributes := #[] }, { accessFlags := 16409, nameIndex := 45, descriptorIndex := 6, attributes := #[] }, { accessFlags := 16409, nameIndex := 48, descriptorIndex := 6, attributes := #[] }, { accessFlags := 16409, nameIndex := 51, descriptorIndex := 6, attributes := #[] }, { accessFlags := 16409, nameIndex := 54, descriptorIndex := 6, attributes := #[] }, { accessFlags := 18, nameIndex := 76, descriptorIndex := 77, attributes := #[] }, { accessFlags := 18, nameIndex := 80, descriptorIndex := 81, attributes := #[] }, { accessFlags := 4122, nameIndex := 57, descriptorIndex := 58, attributes := #[] }])
  fields := #[{ name := "EXTENDS", type := (.object "com/example/nestor/nestor/model/UseKind"), accessFlags := 16409, slot := 0, constantValue := 0 }, { name := "IMPLEMENTS", type := (.object "com/example/nestor/nestor/model/UseKind"), accessFlags := 16409, slot := 1, constantValue := 0 }, { name := "FIELD_TYPE", type := (.object "com/example/nestor/nestor/model/UseKind"), accessFlags := 16409, slot := 2, constantValue := 0 }, { name := "PARAMETER", type := (.object "com/example/nestor/nestor/model/UseKind"), accessFlags := 16409, slot := 3, constantValue := 0 }, { name := "RETURN", type := (.object "com/example/nestor/nestor/model/UseKind"), accessFlags := 16409, slot := 4, constantValue := 0 }, { name := "THROWS", type := (.object "com/example/nestor/nestor/model/UseKind"), accessFlags := 16409, slot := 5, constantValue := 0 }, { name := "TYPE_ARGUMENT", type := (.object "com/example/nestor/nestor/model/UseKind"), accessFlags := 16409, slot := 6, constantValue := 0 }, { name := "ANNOTATION", type := (.object "com/example/nestor/nestor/model/UseKind"), accessFlags := 16409, slot := 7, constantValue := 0 }, { name := "CALL", type := (.object "com/example/nestor/nestor/model/UseKind"), accessFlags := 16409, slot := 8, constantValue := 0 }, { name := "FIELD_ACCESS", type := (.object "com/example/nestor/nestor/model/UseKind"), accessFlags := 16409, slot := 9, constantValue := 0 }, { name := "METHOD_REFERENCE", type := (.object "com/example/nestor/nestor/model/UseKind"), accessFlags := 16409, slot := 10, constantValue := 0 }, { name := "NEW", type := (.object "com/example/nestor/nestor/model/UseKind"), accessFlags := 16409, slot := 11, constantValue := 0 }, { name := "CAST", type := (.object "com/example/nestor/nestor/model/UseKind"), accessFlags := 16409, slot := 12, constantValue := 0 }, { name := "INSTANCEOF", type := (.object "com/example/nestor/nestor/model/UseKind"), accessFlags := 16409, slot := 13, constantValue := 0 }, { name := "CLASS_LITERAL", type := (.object "com/example/nestor/nestor/model/UseKind"), accessFlags := 16409, slot := 14, constantValue := 0 }, { name := "CATCH", type := (.object "com/example/nestor/nestor/model/UseKind"), accessFlags := 16409, slot := 15, constantValue := 0 }, { name := "LAMBDA", type := (.object "com/example/nestor/nestor/model/UseKind"), accessFlags := 16409, slot := 16, constantValue := 0 }, { name := "word", type := (.object "java/lang/String"), accessFlags := 18, slot := 3, constantValue := 0 }, { name := "memberOf", type := (.object "com/example/nestor/nestor/model/UseKind$MemberOf"), accessFlags := 18, slot := 4, constantValue := 0 }, { name := "$VALUES", type := (.array (.object "com/example/nestor/nestor/model/UseKind")), accessFlags := 4122, slot := 17, constantValue := 0 }]
  methods := #[]
  instanceTypes := #[(.object "java/lang/String"), .int, .int, (.object "java/lang/String"), (.object "com/example/nestor/nestor/model/UseKind$MemberOf")]
  staticTypes := #[(.object "com/example/nestor/nestor/model/UseKind"), (.object "com/example/nestor/nestor/model/UseKind"), (.object "com/example/nestor/nestor/model/UseKind"), (.object "com/example/nestor/nestor/model/UseKind"), (.object "com/example/nestor/nestor/model/UseKind"), (.object "com/example/nestor/nestor/model/UseKind"), (.object "com/example/nestor/nestor/model/UseKind"), (.object "com/example/nestor/nestor/model/UseKind"), (.object "com/example/nestor/nestor/model/UseKind"), (.object "com/example/nestor/nestor/model/UseKind"), (.object "com/example/nestor/nestor/model/UseKind"), (.object "com/example/nestor/nestor/model/UseKind"), (.object "com/example/nestor/nestor/model/UseKind"), (.object "com/example/nestor/nestor/model/UseKind"), (.object "com/example/nestor/nestor/model/UseKind"), (.object "com/example/nestor/nestor/model/UseKind"), (.object "com/example/nestor/nestor/model/UseKind"), (.array (.object "com/example/nestor/nestor/model/UseKind"))]
  resolved := Array.replicate 168 none
  statics := some 0 }

def pool7 : Array CpInfo := pool [(2, .class_ 4), (1, u "java/lang/CharSequence"), (42, .class_ 48), (0, u "java/lang/CharSequence$1CodePointIterator"), (10, .class_ 60), (0, u "java/lang/CharSequence$1CharIterator"), (5, .class_ 67), (0, u "java/lang/Object")] 63

/-- java/lang/CharSequence -/
def k7 : Class := { plain "java/lang/CharSequence" (some 0) with
  accessFlags := 1537
  interfaces := #[]
  cf := some (fileOf pool7 2 #[.nestMembers #[47, 59]] #[] 1537 66 #[] #[])
  fields := #[]
  methods := #[]
  instanceTypes := #[]
  staticTypes := #[]
  resolved := Array.replicate 131 none
  statics := none }

def pool8 : Array CpInfo := pool [(1, .class_ 2), (0, u "java/lang/constant/ConstantDesc"), (0, .class_ 4), (0, u "java/lang/Object")] 32

/-- java/lang/constant/ConstantDesc -/
def k8 : Class := { plain "java/lang/constant/ConstantDesc" (some 0) with
  accessFlags := 1537
  interfaces := #[]
  cf := some (fileOf pool8 1 #[] #[] 1537 3 #[] #[])
  fields := #[]
  methods := #[]
  instanceTypes := #[]
  staticTypes := #[]
  resolved := Array.replicate 37 none
  statics := none }

def pool9 : Array CpInfo := pool [(1, .methodref 2 3), (0, .class_ 4), (0, .nameAndType 5 6), (0, u "java/lang/Object"), (0, u "<init>"), (0, u "()V"), (2, .fieldref 10 11), (0, .class_ 12), (0, .nameAndType 13 14), (0, u "java/lang/String"), (0, u "value"), (0, u "[B"), (0, .fieldref 10 16), (0, .nameAndType 17 18), (0, u "coder"), (0, u "B"), (2, u "hash"), (0, u "I"), (2, u "hashIsZero"), (0, u "Z"), (0, .methodref 10 28), (0, .nameAndType 5 29), (0, u "([CIILjava/lang/Void;)V"), (8, .fieldref 10 39), (0, .nameAndType 40 26), (0, u "COMPACT_STRINGS"), (1, .class_ 44), (1, u "java/lang/StringUTF16"), (0, u "compress"), (1, .methodref 42 48), (0, .nameAndType 49 50), (0, u "coderFromArrayLen"), (0, u "([BI)B"), (126, .methodref 42 178), (0, .nameAndType 45 179), (0, u "([CII)[B"), (395, .class_ 576), (0, u "java/lang/CharSequence"), (22, u "CASE_INSENSITIVE_ORDER"), (0, u "Ljava/util/Comparator;"), (409, u "([C)V"), (90, u "serialPersistentFields"), (0, u "[Ljava/io/ObjectStreamField;"), (0, .class_ 1104), (0, u "java/lang/String$CaseInsensitiveComparator"), (1, .class_ 1107), (0, u "java/io/Serializable"), (0, .class_ 1109), (0, u "java/lang/Comparable"), (0, .class_ 1111), (0, u "java/lang/constant/Constable"), (0, .class_ 1113), (0, u "java/lang/constant/ConstantDesc"), (2, u "serialVersionUID"), (0, u "J"), (3, u "REPL"), (0, u "C"), (2, u "LATIN1"), (1, u "UTF16")] 323

def k9m0 : Method := { name := "<init>", desc := "()V", sig := { parameters := [], returnType := none }, accessFlags := 1, code := none }
def k9c1 : Code := { maxStack := 5, maxLocals := 2, code := jdk_42_method_3_code, exceptionTable := #[], attributes := #[] }
def k9m1 : Method := { name := "<init>", desc := "([C)V", sig := { parameters := [(.array .char)], returnType := none }, accessFlags := 1, code := some k9c1 }
def k9c2 : Code := { maxStack := 4, maxLocals := 6, code := jdk_42_method_149_code, exceptionTable := #[], attributes := #[] }
def k9m2 : Method := { name := "<init>", desc := "([CIILjava/lang/Void;)V", sig := { parameters := [(.array .char), .int, .int, (.object "java/lang/Void")], returnType := none }, accessFlags := 2, code := some k9c2 }
/-- java/lang/String -/
def k9 : Class := { plain "java/lang/String" (some 0) with
  accessFlags := 49
  interfaces := #[4, 3, 7, 2, 8]
  cf := some (fileOf pool9 10 #[.nestMembers #[1103]] #[{ accessFlags := 1, nameIndex := 5, descriptorIndex := 6, attributes := #[] }, { accessFlags := 1, nameIndex := 5, descriptorIndex := 1010, attributes := #[] }, { accessFlags := 2, nameIndex := 5, descriptorIndex := 29, attributes := #[] }] 49 2 #[1106, 1108, 575, 1110, 1112] #[{ accessFlags := 18, nameIndex := 13, descriptorIndex := 14, attributes := #[] }, { accessFlags := 18, nameIndex := 17, descriptorIndex := 18, attributes := #[] }, { accessFlags := 2, nameIndex := 21, descriptorIndex := 22, attributes := #[] }, { accessFlags := 2, nameIndex := 25, descriptorIndex := 26, attributes := #[] }, { accessFlags := 26, nameIndex := 1116, descriptorIndex := 1117, attributes := #[] }, { accessFlags := 24, nameIndex := 40, descriptorIndex := 26, attributes := #[] }, { accessFlags := 26, nameIndex := 1101, descriptorIndex := 1102, attributes := #[] }, { accessFlags := 26, nameIndex := 1121, descriptorIndex := 1122, attributes := #[] }, { accessFlags := 25, nameIndex := 599, descriptorIndex := 600, attributes := #[] }, { accessFlags := 24, nameIndex := 1125, descriptorIndex := 18, attributes := #[] }, { accessFlags := 24, nameIndex := 1127, descriptorIndex := 18, attributes := #[] }])
  fields := #[{ name := "value", type := (.array .byte), accessFlags := 18, slot := 0, constantValue := 0 }, { name := "coder", type := .byte, accessFlags := 18, slot := 1, constantValue := 0 }, { name := "hash", type := .int, accessFlags := 2, slot := 2, constantValue := 0 }, { name := "hashIsZero", type := .boolean, accessFlags := 2, slot := 3, constantValue := 0 }, { name := "serialVersionUID", type := .long, accessFlags := 26, slot := 0, constantValue := 0 }, { name := "COMPACT_STRINGS", type := .boolean, accessFlags := 24, slot := 1, constantValue := 0 }, { name := "serialPersistentFields", type := (.array (.object "java/io/ObjectStreamField")), accessFlags := 26, slot := 2, constantValue := 0 }, { name := "REPL", type := .char, accessFlags := 26, slot := 3, constantValue := 0 }, { name := "CASE_INSENSITIVE_ORDER", type := (.object "java/util/Comparator"), accessFlags := 25, slot := 4, constantValue := 0 }, { name := "LATIN1", type := .byte, accessFlags := 24, slot := 5, constantValue := 0 }, { name := "UTF16", type := .byte, accessFlags := 24, slot := 6, constantValue := 0 }]
  methods := #[k9m0, k9m1, k9m2]
  instanceTypes := #[(.array .byte), .byte, .int, .boolean]
  staticTypes := #[.long, .boolean, (.array (.object "java/io/ObjectStreamField")), .char, (.object "java/util/Comparator"), .byte, .byte]
  resolved := Array.replicate 1451 none
  statics := some 1 }

def pool10 : Array CpInfo := pool [(6, .class_ 8), (1, u "java/lang/Object"), (0, u "<init>"), (0, u "()V"), (1, .class_ 14), (1, u "java/lang/StringUTF16"), (31, u "$assertionsDisabled"), (0, u "Z"), (13, u "HI_BYTE_SHIFT"), (0, u "I"), (2, u "LO_BYTE_SHIFT"), (49, .methodref 12 116), (0, .nameAndType 117 118), (0, u "compress"), (0, u "([CI[BII)I"), (3, u "([CII)[B"), (138, u "coderFromArrayLen"), (0, u "([BI)B"), (106, .class_ 371), (1, u "java/lang/StringUTF16$LinesSpliterator"), (58, u "MAX_LENGTH"), (196, .class_ 628), (0, u "java/lang/StringUTF16$CodePointsSpliterator"), (0, .class_ 630), (0, u "java/lang/StringUTF16$CharsSpliterator")] 4

def k10m0 : Method := { name := "<init>", desc := "()V", sig := { parameters := [], returnType := none }, accessFlags := 0, code := none }
def k10c1 : Code := { maxStack := 2, maxLocals := 2, code := jdk_52_method_15_code, exceptionTable := #[], attributes := #[] }
def k10m1 : Method := { name := "coderFromArrayLen", desc := "([BI)B", sig := { parameters := [(.array .byte), .int], returnType := some .byte }, accessFlags := 8, code := some k10c1 }
def k10c2 : Code := { maxStack := 5, maxLocals := 6, code := jdk_52_method_16_code, exceptionTable := #[], attributes := #[] }
def k10m2 : Method := { name := "compress", desc := "([CII)[B", sig := { parameters := [(.array .char), .int, .int], returnType := some (.array .byte) }, accessFlags := 9, code := some k10c2 }
def k10c3 : Code := { maxStack := 3, maxLocals := 7, code := jdk_52_method_21_code, exceptionTable := #[], attributes := #[] }
def k10m3 : Method := { name := "compress", desc := "([CI[BII)I", sig := { parameters := [(.array .char), .int, (.array .byte), .int, .int], returnType := some .int }, accessFlags := 9, code := some k10c3 }
/-- java/lang/StringUTF16 -/
def k10 : Class := { plain "java/lang/StringUTF16" (some 0) with
  accessFlags := 48
  interfaces := #[]
  cf := some (fileOf pool10 12 #[.nestMembers #[627, 629, 369]] #[{ accessFlags := 0, nameIndex := 9, descriptorIndex := 10, attributes := #[] }, { accessFlags := 8, nameIndex := 261, descriptorIndex := 262, attributes := #[] }, { accessFlags := 9, nameIndex := 117, descriptorIndex := 122, attributes := #[] }, { accessFlags := 9, nameIndex := 117, descriptorIndex := 118, attributes := #[] }] 48 6 #[] #[{ accessFlags := 26, nameIndex := 61, descriptorIndex := 62, attributes := #[] }, { accessFlags := 26, nameIndex := 65, descriptorIndex := 62, attributes := #[] }, { accessFlags := 24, nameIndex := 430, descriptorIndex := 62, attributes := #[] }, { accessFlags := 4120, nameIndex := 46, descriptorIndex := 47, attributes := #[] }])
  fields := #[{ name := "HI_BYTE_SHIFT", type := .int, accessFlags := 26, slot := 0, constantValue := 0 }, { name := "LO_BYTE_SHIFT", type := .int, accessFlags := 26, slot := 1, constantValue := 0 }, { name := "MAX_LENGTH", type := .int, accessFlags := 24, slot := 2, constantValue := 0 }, { name := "$assertionsDisabled", type := .boolean, accessFlags := 4120, slot := 3, constantValue := 0 }]
  methods := #[k10m0, k10m1, k10m2, k10m3]
  instanceTypes := #[]
  staticTypes := #[.int, .int, .int, .boolean]
  resolved := Array.replicate 635 none
  statics := none }

def pool11 : Array CpInfo := pool [(1, .methodref 2 3), (0, .class_ 4), (0, .nameAndType 5 6), (0, u "java/lang/Object"), (0, u "<init>"), (0, u "()V"), (0, .class_ 8), (0, u "java/lang/Record")] 13

def k11c0 : Code := { maxStack := 1, maxLocals := 1, code := jdk_30_method_1_code, exceptionTable := #[], attributes := #[] }
def k11m0 : Method := { name := "<init>", desc := "()V", sig := { parameters := [], returnType := none }, accessFlags := 4, code := some k11c0 }
/-- java/lang/Record -/
def k11 : Class := { plain "java/lang/Record" (some 0) with
  accessFlags := 1057
  interfaces := #[]
  cf := some (fileOf pool11 7 #[] #[{ accessFlags := 4, nameIndex := 5, descriptorIndex := 6, attributes := #[] }] 1057 2 #[] #[])
  fields := #[]
  methods := #[k11m0]
  instanceTypes := #[]
  staticTypes := #[]
  resolved := Array.replicate 22 none
  statics := none }

def pool12 : Array CpInfo := pool [(1, .methodref 2 3), (0, .class_ 4), (0, .nameAndType 5 6), (0, u "java/lang/Record"), (0, u "<init>"), (0, u "()V"), (0, .string 8), (0, u "source"), (0, .methodref 10 11), (0, .class_ 12), (0, .nameAndType 13 14), (0, u "java/util/Objects"), (0, u "requireNonNull"), (0, u "(Ljava/lang/Object;Ljava/lang/String;)Ljava/lang/Object;"), (0, .string 16), (0, u "kind"), (0, .string 18), (0, u "detail"), (0, .fieldref 20 21), (0, .class_ 22), (0, .nameAndType 8 23), (0, u "com/example/nestor/nestor/core/Occurrence"), (0, u "Ljava/lang/String;"), (0, .fieldref 20 25), (0, .nameAndType 26 27), (0, u "line"), (0, u "I"), (0, .fieldref 20 29), (0, .nameAndType 16 30), (0, u "Lcom/example/nestor/nestor/model/UseKind;"), (0, .fieldref 20 32), (0, .nameAndType 18 23), (1, .class_ 36), (1, u "com/example/nestor/nestor/core/Occurrence$1"), (18, u "()I"), (36, u "(Ljava/lang/String;ILcom/example/nestor/nestor/model/UseKind;Ljava/lang/String;)V"), (19, u "ORDER"), (0, u "Ljava/util/Comparator;"), (80, .class_ 195), (0, u "java/lang/Comparable"), (0, u "CONSTRUCTOR"), (1, u "IMPL"), (0, u "HASH_LENGTH"), (9, u "hasLine"), (0, u "()Z")] 65

def k12c0 : Code := { maxStack := 2, maxLocals := 5, code := prog_11_method_1_code, exceptionTable := #[], attributes := #[] }
def k12m0 : Method := { name := "<init>", desc := "(Ljava/lang/String;ILcom/example/nestor/nestor/model/UseKind;Ljava/lang/String;)V", sig := { parameters := [(.object "java/lang/String"), .int, (.object "com/example/nestor/nestor/model/UseKind"), (.object "java/lang/String")], returnType := none }, accessFlags := 1, code := some k12c0 }
def k12c1 : Code := { maxStack := 2, maxLocals := 1, code := prog_11_method_3_code, exceptionTable := #[], attributes := #[] }
def k12m1 : Method := { name := "hasLine", desc := "()Z", sig := { parameters := [], returnType := some .boolean }, accessFlags := 1, code := some k12c1 }
def k12c2 : Code := { maxStack := 1, maxLocals := 1, code := prog_11_method_14_code, exceptionTable := #[], attributes := #[] }
def k12m2 : Method := { name := "line", desc := "()I", sig := { parameters := [], returnType := some .int }, accessFlags := 1, code := some k12c2 }
/-- com/example/nestor/nestor/core/Occurrence -/
def k12 : Class := { plain "com/example/nestor/nestor/core/Occurrence" (some 11) with
  accessFlags := 49
  interfaces := #[3]
  cf := some (fileOf pool12 20 #[.nestMembers #[34]] #[{ accessFlags := 1, nameIndex := 5, descriptorIndex := 92, attributes := #[] }, { accessFlags := 1, nameIndex := 209, descriptorIndex := 210, attributes := #[] }, { accessFlags := 1, nameIndex := 26, descriptorIndex := 55, attributes := #[] }] 49 2 #[194] #[{ accessFlags := 18, nameIndex := 8, descriptorIndex := 23, attributes := #[] }, { accessFlags := 18, nameIndex := 26, descriptorIndex := 27, attributes := #[] }, { accessFlags := 18, nameIndex := 16, descriptorIndex := 30, attributes := #[] }, { accessFlags := 18, nameIndex := 18, descriptorIndex := 23, attributes := #[] }, { accessFlags := 26, nameIndex := 196, descriptorIndex := 23, attributes := #[] }, { accessFlags := 26, nameIndex := 198, descriptorIndex := 23, attributes := #[] }, { accessFlags := 26, nameIndex := 199, descriptorIndex := 27, attributes := #[] }, { accessFlags := 26, nameIndex := 112, descriptorIndex := 113, attributes := #[] }])
  fields := #[{ name := "source", type := (.object "java/lang/String"), accessFlags := 18, slot := 0, constantValue := 0 }, { name := "line", type := .int, accessFlags := 18, slot := 1, constantValue := 0 }, { name := "kind", type := (.object "com/example/nestor/nestor/model/UseKind"), accessFlags := 18, slot := 2, constantValue := 0 }, { name := "detail", type := (.object "java/lang/String"), accessFlags := 18, slot := 3, constantValue := 0 }, { name := "CONSTRUCTOR", type := (.object "java/lang/String"), accessFlags := 26, slot := 0, constantValue := 0 }, { name := "IMPL", type := (.object "java/lang/String"), accessFlags := 26, slot := 1, constantValue := 0 }, { name := "HASH_LENGTH", type := .int, accessFlags := 26, slot := 2, constantValue := 0 }, { name := "ORDER", type := (.object "java/util/Comparator"), accessFlags := 26, slot := 3, constantValue := 0 }]
  methods := #[k12m0, k12m1, k12m2]
  instanceTypes := #[(.object "java/lang/String"), .int, (.object "com/example/nestor/nestor/model/UseKind"), (.object "java/lang/String")]
  staticTypes := #[(.object "java/lang/String"), (.object "java/lang/String"), .int, (.object "java/util/Comparator")]
  resolved := Array.replicate 276 none
  statics := none }

def pool13 : Array CpInfo := pool [(2, .class_ 4), (1, u "java/lang/Object"), (0, u "<init>"), (0, u "()V"), (35, .class_ 44), (1, u "java/util/Objects"), (0, u "requireNonNull"), (48, u "(Ljava/lang/Object;Ljava/lang/String;)Ljava/lang/Object;")] 89

def k13m0 : Method := { name := "<init>", desc := "()V", sig := { parameters := [], returnType := none }, accessFlags := 2, code := none }
def k13c1 : Code := { maxStack := 3, maxLocals := 2, code := jdk_31_method_11_code, exceptionTable := #[], attributes := #[] }
def k13m1 : Method := { name := "requireNonNull", desc := "(Ljava/lang/Object;Ljava/lang/String;)Ljava/lang/Object;", sig := { parameters := [(.object "java/lang/Object"), (.object "java/lang/String")], returnType := some (.object "java/lang/Object") }, accessFlags := 9, code := some k13c1 }
/-- java/util/Objects -/
def k13 : Class := { plain "java/util/Objects" (some 0) with
  accessFlags := 49
  interfaces := #[]
  cf := some (fileOf pool13 42 #[] #[{ accessFlags := 2, nameIndex := 5, descriptorIndex := 6, attributes := #[] }, { accessFlags := 9, nameIndex := 45, descriptorIndex := 94, attributes := #[] }] 49 2 #[] #[])
  fields := #[]
  methods := #[k13m0, k13m1]
  instanceTypes := #[]
  staticTypes := #[]
  resolved := Array.replicate 184 none
  statics := none }

def pool14 : Array CpInfo := pool [(4, .class_ 6), (1, u "java/lang/Object"), (0, u "<init>"), (0, u "()V"), (5, .class_ 16), (1, u "java/lang/StringLatin1"), (104, u "$assertionsDisabled"), (0, u "Z"), (98, .class_ 223), (1, u "java/lang/StringLatin1$LinesSpliterator"), (166, .class_ 391), (0, u "java/lang/StringLatin1$CharsSpliterator")] 3

def k14m0 : Method := { name := "<init>", desc := "()V", sig := { parameters := [], returnType := none }, accessFlags := 0, code := none }
/-- java/lang/StringLatin1 -/
def k14 : Class := { plain "java/lang/StringLatin1" (some 0) with
  accessFlags := 48
  interfaces := #[]
  cf := some (fileOf pool14 14 #[.nestMembers #[390, 221]] #[{ accessFlags := 0, nameIndex := 7, descriptorIndex := 8, attributes := #[] }] 48 4 #[] #[{ accessFlags := 4120, nameIndex := 121, descriptorIndex := 122, attributes := #[] }])
  fields := #[{ name := "$assertionsDisabled", type := .boolean, accessFlags := 4120, slot := 0, constantValue := 0 }]
  methods := #[k14m0]
  instanceTypes := #[]
  staticTypes := #[.boolean]
  resolved := Array.replicate 395 none
  statics := none }

def pool15 : Array CpInfo := pool [(2, .class_ 4), (1, u "java/lang/Object"), (0, u "<init>"), (0, u "()V"), (17, .class_ 26), (1, u "jdk/internal/util/Preconditions"), (28, .class_ 56), (0, u "jdk/internal/util/Preconditions$4"), (57, .class_ 115), (0, u "jdk/internal/util/Preconditions$1"), (7, u "SIOOBE_FORMATTER"), (0, u "Ljava/util/function/BiFunction;"), (0, .class_ 126), (0, u "jdk/internal/util/Preconditions$2"), (3, u "AIOOBE_FORMATTER"), (0, .class_ 132), (0, u "jdk/internal/util/Preconditions$3"), (3, u "IOOBE_FORMATTER")] 57

def k15m0 : Method := { name := "<init>", desc := "()V", sig := { parameters := [], returnType := none }, accessFlags := 1, code := none }
/-- jdk/internal/util/Preconditions -/
def k15 : Class := { plain "jdk/internal/util/Preconditions" (some 0) with
  accessFlags := 33
  interfaces := #[]
  cf := some (fileOf pool15 24 #[.nestMembers #[55, 131, 125, 114]] #[{ accessFlags := 1, nameIndex := 5, descriptorIndex := 6, attributes := #[] }] 33 2 #[] #[{ accessFlags := 25, nameIndex := 123, descriptorIndex := 124, attributes := #[] }, { accessFlags := 25, nameIndex := 130, descriptorIndex := 124, attributes := #[] }, { accessFlags := 25, nameIndex := 136, descriptorIndex := 124, attributes := #[] }])
  fields := #[{ name := "SIOOBE_FORMATTER", type := (.object "java/util/function/BiFunction"), accessFlags := 25, slot := 0, constantValue := 0 }, { name := "AIOOBE_FORMATTER", type := (.object "java/util/function/BiFunction"), accessFlags := 25, slot := 1, constantValue := 0 }, { name := "IOOBE_FORMATTER", type := (.object "java/util/function/BiFunction"), accessFlags := 25, slot := 2, constantValue := 0 }]
  methods := #[k15m0]
  instanceTypes := #[]
  staticTypes := #[(.object "java/util/function/BiFunction"), (.object "java/util/function/BiFunction"), (.object "java/util/function/BiFunction")]
  resolved := Array.replicate 194 none
  statics := some 2 }

def pool16 : Array CpInfo := pool [(9, u "<init>"), (6, .class_ 18), (1, u "java/lang/Object"), (0, u "()V"), (1, .class_ 23), (1, u "jdk/internal/util/ArraysSupport"), (0, u "LOG2_ARRAY_LONG_INDEX_SCALE"), (0, u "I"), (2, u "U"), (0, u "Ljdk/internal/misc/Unsafe;"), (8, u "BIG_ENDIAN"), (0, u "Z"), (8, u "LOG2_BYTE_BIT_SIZE"), (4, u "LOG2_ARRAY_INT_INDEX_SCALE"), (54, u "JLA"), (0, u "Ljdk/internal/access/JavaLangAccess;"), (11, u "LOG2_ARRAY_BOOLEAN_INDEX_SCALE"), (9, u "LOG2_ARRAY_BYTE_INDEX_SCALE"), (5, u "LOG2_ARRAY_CHAR_INDEX_SCALE"), (5, u "LOG2_ARRAY_SHORT_INDEX_SCALE"), (18, u "LOG2_ARRAY_FLOAT_INDEX_SCALE"), (24, u "LOG2_ARRAY_DOUBLE_INDEX_SCALE"), (89, u "T_BOOLEAN"), (2, u "T_CHAR"), (1, u "T_FLOAT"), (1, u "T_DOUBLE"), (1, u "T_BYTE"), (1, u "T_SHORT"), (1, u "T_INT"), (1, u "T_LONG"), (1, u "SOFT_MAX_ARRAY_LENGTH")] 83

def k16m0 : Method := { name := "<init>", desc := "()V", sig := { parameters := [], returnType := none }, accessFlags := 2, code := none }
/-- jdk/internal/util/ArraysSupport -/
def k16 : Class := { plain "jdk/internal/util/ArraysSupport" (some 0) with
  accessFlags := 33
  interfaces := #[]
  cf := some (fileOf pool16 21 #[] #[{ accessFlags := 2, nameIndex := 9, descriptorIndex := 19, attributes := #[] }] 33 16 #[] #[{ accessFlags := 24, nameIndex := 28, descriptorIndex := 29, attributes := #[] }, { accessFlags := 26, nameIndex := 38, descriptorIndex := 39, attributes := #[] }, { accessFlags := 25, nameIndex := 121, descriptorIndex := 25, attributes := #[] }, { accessFlags := 25, nameIndex := 131, descriptorIndex := 25, attributes := #[] }, { accessFlags := 25, nameIndex := 137, descriptorIndex := 25, attributes := #[] }, { accessFlags := 25, nameIndex := 143, descriptorIndex := 25, attributes := #[] }, { accessFlags := 25, nameIndex := 53, descriptorIndex := 25, attributes := #[] }, { accessFlags := 25, nameIndex := 24, descriptorIndex := 25, attributes := #[] }, { accessFlags := 25, nameIndex := 162, descriptorIndex := 25, attributes := #[] }, { accessFlags := 25, nameIndex := 187, descriptorIndex := 25, attributes := #[] }, { accessFlags := 26, nameIndex := 48, descriptorIndex := 25, attributes := #[] }, { accessFlags := 25, nameIndex := 277, descriptorIndex := 25, attributes := #[] }, { accessFlags := 25, nameIndex := 280, descriptorIndex := 25, attributes := #[] }, { accessFlags := 25, nameIndex := 282, descriptorIndex := 25, attributes := #[] }, { accessFlags := 25, nameIndex := 284, descriptorIndex := 25, attributes := #[] }, { accessFlags := 25, nameIndex := 286, descriptorIndex := 25, attributes := #[] }, { accessFlags := 25, nameIndex := 288, descriptorIndex := 25, attributes := #[] }, { accessFlags := 25, nameIndex := 290, descriptorIndex := 25, attributes := #[] }, { accessFlags := 25, nameIndex := 292, descriptorIndex := 25, attributes := #[] }, { accessFlags := 26, nameIndex := 108, descriptorIndex := 109, attributes := #[] }, { accessFlags := 25, nameIndex := 294, descriptorIndex := 25, attributes := #[] }])
  fields := #[{ name := "U", type := (.object "jdk/internal/misc/Unsafe"), accessFlags := 24, slot := 0, constantValue := 0 }, { name := "BIG_ENDIAN", type := .boolean, accessFlags := 26, slot := 1, constantValue := 0 }, { name := "LOG2_ARRAY_BOOLEAN_INDEX_SCALE", type := .int, accessFlags := 25, slot := 2, constantValue := 0 }, { name := "LOG2_ARRAY_BYTE_INDEX_SCALE", type := .int, accessFlags := 25, slot := 3, constantValue := 0 }, { name := "LOG2_ARRAY_CHAR_INDEX_SCALE", type := .int, accessFlags := 25, slot := 4, constantValue := 0 }, { name := "LOG2_ARRAY_SHORT_INDEX_SCALE", type := .int, accessFlags := 25, slot := 5, constantValue := 0 }, { name := "LOG2_ARRAY_INT_INDEX_SCALE", type := .int, accessFlags := 25, slot := 6, constantValue := 0 }, { name := "LOG2_ARRAY_LONG_INDEX_SCALE", type := .int, accessFlags := 25, slot := 7, constantValue := 0 }, { name := "LOG2_ARRAY_FLOAT_INDEX_SCALE", type := .int, accessFlags := 25, slot := 8, constantValue := 0 }, { name := "LOG2_ARRAY_DOUBLE_INDEX_SCALE", type := .int, accessFlags := 25, slot := 9, constantValue := 0 }, { name := "LOG2_BYTE_BIT_SIZE", type := .int, accessFlags := 26, slot := 10, constantValue := 0 }, { name := "T_BOOLEAN", type := .int, accessFlags := 25, slot := 11, constantValue := 0 }, { name := "T_CHAR", type := .int, accessFlags := 25, slot := 12, constantValue := 0 }, { name := "T_FLOAT", type := .int, accessFlags := 25, slot := 13, constantValue := 0 }, { name := "T_DOUBLE", type := .int, accessFlags := 25, slot := 14, constantValue := 0 }, { name := "T_BYTE", type := .int, accessFlags := 25, slot := 15, constantValue := 0 }, { name := "T_SHORT", type := .int, accessFlags := 25, slot := 16, constantValue := 0 }, { name := "T_INT", type := .int, accessFlags := 25, slot := 17, constantValue := 0 }, { name := "T_LONG", type := .int, accessFlags := 25, slot := 18, constantValue := 0 }, { name := "JLA", type := (.object "jdk/internal/access/JavaLangAccess"), accessFlags := 26, slot := 19, constantValue := 0 }, { name := "SOFT_MAX_ARRAY_LENGTH", type := .int, accessFlags := 25, slot := 20, constantValue := 0 }]
  methods := #[k16m0]
  instanceTypes := #[]
  staticTypes := #[(.object "jdk/internal/misc/Unsafe"), .boolean, .int, .int, .int, .int, .int, .int, .int, .int, .int, .int, .int, .int, .int, .int, .int, .int, .int, (.object "jdk/internal/access/JavaLangAccess"), .int]
  resolved := Array.replicate 378 none
  statics := none }

def pool17 : Array CpInfo := pool [(1, u "java/lang/Cloneable"), (0, .class_ 1), (0, u "java/lang/Object"), (0, .class_ 3)] 3

/-- java/lang/Cloneable -/
def k17 : Class := { plain "java/lang/Cloneable" (some 0) with
  accessFlags := 1537
  interfaces := #[]
  cf := some (fileOf pool17 2 #[] #[] 1537 4 #[] #[])
  fields := #[]
  methods := #[]
  instanceTypes := #[]
  staticTypes := #[]
  resolved := Array.replicate 8 none
  statics := none }

/-- the primitive byte -/
def k18 : Class := { plain "byte" none with kind := .primitive 'B', accessFlags := 0x411 }
/-- [B -/
def k19 : Class := { plain "[B" (some 0) with kind := .array 18 .byte, interfaces := #[17, 4], accessFlags := 1041 }

/-- the primitive char -/
def k20 : Class := { plain "char" none with kind := .primitive 'C', accessFlags := 0x411 }
/-- [C -/
def k21 : Class := { plain "[C" (some 0) with kind := .array 20 .char, interfaces := #[17, 4], accessFlags := 1041 }

/-- the primitive int -/
def k22 : Class := { plain "int" none with kind := .primitive 'I', accessFlags := 0x411 }
/-- [I -/
def k23 : Class := { plain "[I" (some 0) with kind := .array 22 .int, interfaces := #[17, 4], accessFlags := 1041 }

def heap : Heap := #[{ cls := 6, slots := #[.ref 6, .null, .ref 5, .null, .null, .null, .null, .null, .ref 3, .null, .null, .ref 4, .null, .null, .null, .null, .null, .null], vm := .statics 6 },
  { cls := 9, slots := #[.long 0, .int 1, .null, .int 0, .null, .int 0, .int 0], vm := .statics 9 },
  { cls := 15, slots := #[.null, .null, .null], vm := .statics 15 },
  { cls := 6, slots := #[.null, .int 0, .int 0, .null, .null], vm := .none },
  { cls := 6, slots := #[.null, .int 1, .int 0, .null, .null], vm := .none },
  { cls := 6, slots := #[.null, .int 2, .int 0, .null, .null], vm := .none },
  { cls := 6, slots := #[.null, .int 3, .int 0, .null, .null], vm := .none }]
def classes : Array Class := #[k0, k1, k2, k3, k4, k5, k6, k7, k8, k9, k10, k11, k12, k13, k14, k15, k16, k17, k18, k19, k20, k21, k22, k23]
def interned : List (Array UInt16 × Addr) := []
def slotsUsed : Nat := 48
def theMethod : MethodId := ⟨1, 2⟩
def args0 : Array Value := #[.int 5, .int 7, .int 3, .int 4]
def aboutOver (below : List Frame) : State where
  vm := { classes := classes, interned := interned.toArray }
  heap := heap
  slotsUsed := slotsUsed
  threads := #[{ frames := .invoking theMethod args0 :: below }]
def below0 : List Frame := [.native { method := ⟨0, 0⟩, args := #[] }]
def about1 : State := aboutOver below0
def p0 : Program := .bare "" "" ""
def e0 : Env := launch0.env 0 0 0
theorem w_frames : about1.frames = Frame.invoking theMethod args0 :: below0 := rfl
set_option maxRecDepth 65536 in
theorem w_args : argsFit about1.vm theMethod args0 = true := by decide +kernel
set_option maxRecDepth 65536 in
theorem w_heap : heapFits about1 = true := by decide +kernel
set_option maxRecDepth 65536 in
theorem w_runnable : about1.curStatus? = some .runnable := by decide +kernel
set_option maxRecDepth 65536 in
theorem w_alone : about1.alone = true := by decide +kernel
set_option maxRecDepth 65536 in
theorem w_named : about1.methodNamed? x = some theMethod := by decide +kernel
set_option maxRecDepth 65536 in
theorem w_hears : about1.hears theMethod below0 = true := by decide +kernel
set_option maxRecDepth 65536 in
theorem w_ripe : about1.ripe theMethod args0 below0 = true := by decide +kernel
theorem w_running : about1.status = .running := rfl
set_option maxRecDepth 65536 in
theorem w_room : about1.hasRoom e0.platform room_1 = true :=
  launch0.hasRoom_least _ room_1 (by decide +kernel) (by decide +kernel) (by decide +kernel) (by decide +kernel) (by decide +kernel) (by decide +kernel)
theorem allAtoms_all (ts : List Jvm.Cond) (a : Array Jvm.Value) (st : Jvm.State) : (allAtoms ts).before a st = ts.all (fun c => c.before a st) := by
  induction ts with
  | nil => rfl
  | cons c t ih =>
    show (Jvm.Cond.and c (allAtoms t)).before a st = _
    rw [Jvm.Cond.before_and, ih, List.all_cons]
def words1 : List Jvm.Cond := Jvm.Cond.code x code maxLocals ret :: tables_1
/-- a 'code' word, met by the world's own term for the bytes: nothing is compared byte by byte -/
theorem code_word {y : MethodName} {bytes : ByteArray} {mx : Nat} {rt : Option FieldType} {a : Array Value} {s : State} {m : MethodId} {meth : Method} {c : Code} (h1 : s.methodNamed? y = some m) (h2 : s.vm.method? m = some meth) (h3 : meth.code = some c) (h4 : c.code = bytes)
    (h5 : (c.maxLocals == mx && c.exceptionTable.isEmpty && decide (c.maxStack ≤ mostOperands) && decide (meth.sig.returnType = rt) && !meth.locks && decide (parseMethodDescriptor y.desc = some meth.sig)) = true) : (Jvm.Cond.code y bytes mx rt).before a s = true := by
  simp only [Bool.and_eq_true, beq_iff_eq, Bool.not_eq_true', decide_eq_true_eq] at h5
  obtain ⟨⟨⟨⟨⟨g1, g2⟩, g3⟩, g4⟩, g5⟩, g6⟩ := h5
  simp [Cond.before, Cond.holds, Cond.value, h1, h2, h3, h4, g1, g2, g3, g4, g5, g6]
def isCode : Jvm.Cond → Bool
  | .code _ _ _ _ => true
  | _ => false
theorem all_split {L : List Jvm.Cond} {P : Jvm.Cond → Bool} (h1 : L.all (fun c => isCode c || P c) = true) (h2 : ∀ c ∈ L.filter isCode, P c = true) : L.all P = true := by
  refine List.all_eq_true.mpr fun c hc => ?_
  have h := List.all_eq_true.mp h1 c hc
  rcases Bool.eq_false_or_eq_true (isCode c) with hi | hi
  · exact h2 c (List.mem_filter.mpr ⟨hc, hi⟩)
  · simpa [hi] using h
set_option maxRecDepth 65536 in
theorem w_c0 : (Jvm.Cond.code x code maxLocals ret).before args0 about1 = true := code_word (m := ⟨1, 2⟩) (meth := k1m2) (c := k1c2) (by decide +kernel) rfl rfl rfl (by decide +kernel)
set_option maxRecDepth 65536 in
theorem w_c1 : (Jvm.Cond.code ({ cls := "com/example/nestor/nestor/core/OccurrenceHasLinePinLaw", name := "kindOf", desc := "(I)Lcom/example/nestor/nestor/model/UseKind;" } : Jvm.MethodName) method_2_code (1 : Nat) (Option.some (Jvm.ClassFile.FieldType.object "com/example/nestor/nestor/model/UseKind"))).before args0 about1 = true := code_word (m := ⟨1, 1⟩) (meth := k1m1) (c := k1c1) (by decide +kernel) rfl rfl rfl (by decide +kernel)
set_option maxRecDepth 65536 in
theorem w_c2 : (Jvm.Cond.code ({ cls := "java/lang/String", name := "<init>", desc := "([C)V" } : Jvm.MethodName) jdk_42_method_3_code (2 : Nat) (Option.none : Option Jvm.ClassFile.FieldType)).before args0 about1 = true := code_word (m := ⟨9, 1⟩) (meth := k9m1) (c := k9c1) (by decide +kernel) rfl rfl rfl (by decide +kernel)
set_option maxRecDepth 65536 in
theorem w_c3 : (Jvm.Cond.code ({ cls := "java/lang/String", name := "<init>", desc := "([CIILjava/lang/Void;)V" } : Jvm.MethodName) jdk_42_method_149_code (6 : Nat) (Option.none : Option Jvm.ClassFile.FieldType)).before args0 about1 = true := code_word (m := ⟨9, 2⟩) (meth := k9m2) (c := k9c2) (by decide +kernel) rfl rfl rfl (by decide +kernel)
set_option maxRecDepth 65536 in
theorem w_c4 : (Jvm.Cond.code ({ cls := "java/lang/Object", name := "<init>", desc := "()V" } : Jvm.MethodName) object_method_1_code (1 : Nat) (Option.none : Option Jvm.ClassFile.FieldType)).before args0 about1 = true := code_word (m := ⟨0, 0⟩) (meth := k0m0) (c := k0c0) (by decide +kernel) rfl rfl rfl (by decide +kernel)
set_option maxRecDepth 65536 in
theorem w_c5 : (Jvm.Cond.code ({ cls := "java/lang/StringUTF16", name := "compress", desc := "([CII)[B" } : Jvm.MethodName) jdk_52_method_16_code (6 : Nat) (Option.some (Jvm.ClassFile.FieldType.array Jvm.ClassFile.FieldType.byte))).before args0 about1 = true := code_word (m := ⟨10, 2⟩) (meth := k10m2) (c := k10c2) (by decide +kernel) rfl rfl rfl (by decide +kernel)
set_option maxRecDepth 65536 in
theorem w_c6 : (Jvm.Cond.code ({ cls := "java/lang/StringUTF16", name := "compress", desc := "([CI[BII)I" } : Jvm.MethodName) jdk_52_method_21_code (7 : Nat) (Option.some Jvm.ClassFile.FieldType.int)).before args0 about1 = true := code_word (m := ⟨10, 3⟩) (meth := k10m3) (c := k10c3) (by decide +kernel) rfl rfl rfl (by decide +kernel)
set_option maxRecDepth 65536 in
theorem w_c7 : (Jvm.Cond.code ({ cls := "java/lang/StringUTF16", name := "coderFromArrayLen", desc := "([BI)B" } : Jvm.MethodName) jdk_52_method_15_code (2 : Nat) (Option.some Jvm.ClassFile.FieldType.byte)).before args0 about1 = true := code_word (m := ⟨10, 1⟩) (meth := k10m1) (c := k10c1) (by decide +kernel) rfl rfl rfl (by decide +kernel)
set_option maxRecDepth 65536 in
theorem w_c8 : (Jvm.Cond.code ({ cls := "com/example/nestor/nestor/core/Occurrence", name := "<init>", desc := "(Ljava/lang/String;ILcom/example/nestor/nestor/model/UseKind;Ljava/lang/String;)V" } : Jvm.MethodName) prog_11_method_1_code (5 : Nat) (Option.none : Option Jvm.ClassFile.FieldType)).before args0 about1 = true := code_word (m := ⟨12, 0⟩) (meth := k12m0) (c := k12c0) (by decide +kernel) rfl rfl rfl (by decide +kernel)
set_option maxRecDepth 65536 in
theorem w_c9 : (Jvm.Cond.code ({ cls := "java/lang/Record", name := "<init>", desc := "()V" } : Jvm.MethodName) jdk_30_method_1_code (1 : Nat) (Option.none : Option Jvm.ClassFile.FieldType)).before args0 about1 = true := code_word (m := ⟨11, 0⟩) (meth := k11m0) (c := k11c0) (by decide +kernel) rfl rfl rfl (by decide +kernel)
set_option maxRecDepth 65536 in
theorem w_c10 : (Jvm.Cond.code ({ cls := "java/util/Objects", name := "requireNonNull", desc := "(Ljava/lang/Object;Ljava/lang/String;)Ljava/lang/Object;" } : Jvm.MethodName) jdk_31_method_11_code (2 : Nat) (Option.some (Jvm.ClassFile.FieldType.object "java/lang/Object"))).before args0 about1 = true := code_word (m := ⟨13, 1⟩) (meth := k13m1) (c := k13c1) (by decide +kernel) rfl rfl rfl (by decide +kernel)
set_option maxRecDepth 65536 in
theorem w_c11 : (Jvm.Cond.code ({ cls := "com/example/nestor/nestor/core/Occurrence", name := "hasLine", desc := "()Z" } : Jvm.MethodName) prog_11_method_3_code (1 : Nat) (Option.some Jvm.ClassFile.FieldType.boolean)).before args0 about1 = true := code_word (m := ⟨12, 1⟩) (meth := k12m1) (c := k12c1) (by decide +kernel) rfl rfl rfl (by decide +kernel)
set_option maxRecDepth 65536 in
theorem w_c12 : (Jvm.Cond.code ({ cls := "com/example/nestor/nestor/core/Occurrence", name := "line", desc := "()I" } : Jvm.MethodName) prog_11_method_14_code (1 : Nat) (Option.some Jvm.ClassFile.FieldType.int)).before args0 about1 = true := code_word (m := ⟨12, 2⟩) (meth := k12m2) (c := k12c2) (by decide +kernel) rfl rfl rfl (by decide +kernel)
def codes1 : List Jvm.Cond := [Jvm.Cond.code x code maxLocals ret, Jvm.Cond.code ({ cls := "com/example/nestor/nestor/core/OccurrenceHasLinePinLaw", name := "kindOf", desc := "(I)Lcom/example/nestor/nestor/model/UseKind;" } : Jvm.MethodName) method_2_code (1 : Nat) (Option.some (Jvm.ClassFile.FieldType.object "com/example/nestor/nestor/model/UseKind")), Jvm.Cond.code ({ cls := "java/lang/String", name := "<init>", desc := "([C)V" } : Jvm.MethodName) jdk_42_method_3_code (2 : Nat) (Option.none : Option Jvm.ClassFile.FieldType), Jvm.Cond.code ({ cls := "java/lang/String", name := "<init>", desc := "([CIILjava/lang/Void;)V" } : Jvm.MethodName) jdk_42_method_149_code (6 : Nat) (Option.none : Option Jvm.ClassFile.FieldType), Jvm.Cond.code ({ cls := "java/lang/Object", name := "<init>", desc := "()V" } : Jvm.MethodName) object_method_1_code (1 : Nat) (Option.none : Option Jvm.ClassFile.FieldType), Jvm.Cond.code ({ cls := "java/lang/StringUTF16", name := "compress", desc := "([CII)[B" } : Jvm.MethodName) jdk_52_method_16_code (6 : Nat) (Option.some (Jvm.ClassFile.FieldType.array Jvm.ClassFile.FieldType.byte)), Jvm.Cond.code ({ cls := "java/lang/StringUTF16", name := "compress", desc := "([CI[BII)I" } : Jvm.MethodName) jdk_52_method_21_code (7 : Nat) (Option.some Jvm.ClassFile.FieldType.int), Jvm.Cond.code ({ cls := "java/lang/StringUTF16", name := "coderFromArrayLen", desc := "([BI)B" } : Jvm.MethodName) jdk_52_method_15_code (2 : Nat) (Option.some Jvm.ClassFile.FieldType.byte), Jvm.Cond.code ({ cls := "com/example/nestor/nestor/core/Occurrence", name := "<init>", desc := "(Ljava/lang/String;ILcom/example/nestor/nestor/model/UseKind;Ljava/lang/String;)V" } : Jvm.MethodName) prog_11_method_1_code (5 : Nat) (Option.none : Option Jvm.ClassFile.FieldType), Jvm.Cond.code ({ cls := "java/lang/Record", name := "<init>", desc := "()V" } : Jvm.MethodName) jdk_30_method_1_code (1 : Nat) (Option.none : Option Jvm.ClassFile.FieldType), Jvm.Cond.code ({ cls := "java/util/Objects", name := "requireNonNull", desc := "(Ljava/lang/Object;Ljava/lang/String;)Ljava/lang/Object;" } : Jvm.MethodName) jdk_31_method_11_code (2 : Nat) (Option.some (Jvm.ClassFile.FieldType.object "java/lang/Object")), Jvm.Cond.code ({ cls := "com/example/nestor/nestor/core/Occurrence", name := "hasLine", desc := "()Z" } : Jvm.MethodName) prog_11_method_3_code (1 : Nat) (Option.some Jvm.ClassFile.FieldType.boolean), Jvm.Cond.code ({ cls := "com/example/nestor/nestor/core/Occurrence", name := "line", desc := "()I" } : Jvm.MethodName) prog_11_method_14_code (1 : Nat) (Option.some Jvm.ClassFile.FieldType.int)]
set_option maxRecDepth 65536 in
theorem codes_eq : words1.filter isCode = codes1 := rfl
theorem w_codes : ∀ c ∈ words1.filter isCode, c.before args0 about1 = true := by
  rw [codes_eq]
  intro c hc
  simp only [codes1, List.mem_cons, List.not_mem_nil, or_false] at hc
  rcases hc with rfl | rfl | rfl | rfl | rfl | rfl | rfl | rfl | rfl | rfl | rfl | rfl | rfl
  · exact w_c0
  · exact w_c1
  · exact w_c2
  · exact w_c3
  · exact w_c4
  · exact w_c5
  · exact w_c6
  · exact w_c7
  · exact w_c8
  · exact w_c9
  · exact w_c10
  · exact w_c11
  · exact w_c12
set_option maxRecDepth 65536 in
theorem w_t1 : (words1.take 24).all (fun c => isCode c || c.before args0 about1) = true := by decide +kernel
set_option maxRecDepth 65536 in
theorem w_t2 : ((words1.drop 24).take 24).all (fun c => isCode c || c.before args0 about1) = true := by decide +kernel
set_option maxRecDepth 65536 in
theorem w_t3 : (((words1.drop 24).drop 24).take 24).all (fun c => isCode c || c.before args0 about1) = true := by decide +kernel
set_option maxRecDepth 65536 in
theorem w_t4 : (((words1.drop 24).drop 24).drop 24).all (fun c => isCode c || c.before args0 about1) = true := by decide +kernel
theorem w_tables : (allAtoms (Jvm.Cond.code x code maxLocals ret :: tables_1)).before args0 about1 = true := by
  rw [allAtoms_all]
  show words1.all (fun c => c.before args0 about1) = true
  refine all_split ?_ w_codes
  rw [← List.take_append_drop 24 words1, List.all_append, w_t1, ← List.take_append_drop 24 (words1.drop 24), List.all_append, w_t2, ← List.take_append_drop 24 ((words1.drop 24).drop 24), List.all_append, w_t3, w_t4]
  rfl
set_option maxRecDepth 65536 in
theorem w_rest : rest_1_c.before args0 about1 = true := by decide +kernel
set_option maxRecDepth 65536 in
theorem w_case : (Jvm.Cond.and given_1 narrow_1).before args0 about1 = true := by decide +kernel
theorem w_applies : (headSpec (Jvm.Cond.code x code maxLocals ret :: tables_1) room_1).applies x e0.platform about1 = true :=
  (Spec.applies_iff w_frames).mpr ⟨w_running, w_runnable, w_alone, w_named, w_hears, w_ripe, w_room, w_tables⟩
theorem atStart : AtStart classFile x code maxLocals ret World_1 tables_1 room_1 Calls_1 rest_1 Pre_1 launch0 p0 e0 about1 theMethod args0 below0 :=
  ⟨lists_1, trivial, launch0.admits_env _ _ _, launch0.least_env, fairChoices_fair.cas, fairChoices_fair.clock, w_frames, w_args, w_heap, w_applies, trivial, w_rest, w_case⟩
end start1
theorem witness_1 : WitnessClaimed_1 := ⟨start1.p0, start1.e0, start1.about1, start1.theMethod, start1.args0, start1.below0, start1.atStart⟩
end Jvm.Pilot.@@N@@
