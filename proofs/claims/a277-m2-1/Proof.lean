import JvmDerived
import JvmDerived.Pilot.@@N@@Statement
import JvmDerived.Pilot.@@N@@Code
set_option linter.unusedVariables false
set_option linter.unusedSimpArgs false
/- laws to paste: Road.backV, Road.eqW, Road.codOf (cut by pick.py; bodies as the Statement names them) -/
namespace Jvm.Pilot.@@N@@
namespace StrChars
open Jvm Sem ClassFile Op Lib Jvm.Stand Jvm.Free.XT Jvm.Free.ALB Jvm.Free.JM Jvm.Free
open Jvm.Lib.Cold (StaticIs)
/-- a char array whose places are chars -/
def Ch (a : Addr) (A : Cell) (U : State) : Prop := Arr .char a A U ∧ Typed .char A
theorem Ch.mv {a : Addr} {A : Cell} {U U' : State} (h : Ch a A U) (hal : U.vm.Alike U'.vm) (hh : U'.heap = U.heap) : Ch a A U' := ⟨h.1.mv hal hh, h.2⟩
theorem Ch.keep {a : Addr} {A : Cell} {U U' : State} (h : Ch a A U) (hal : U.vm.Alike U'.vm) (hk : U'.heap[a]? = some A) : Ch a A U' := ⟨h.1.keep hal hk, h.2⟩
/-- what place i of a char[]'s cell holds -/
def cv (A : Cell) (i : Nat) : Int32 := match A.slots[i]? with | some (.int x) => x | _ => 0
theorem Ch.get {a : Addr} {A : Cell} {U : State} (h : Ch a A U) {i : Nat} (hi : i < A.slots.size) : A.slots[i]? = some (.int (cv A i)) := by
  have e := Array.getElem?_eq_getElem hi
  have f := h.2 i _ e
  unfold cv; rw [e]
  generalize A.slots[i] = v at f
  cases v <;> simp [fits] at f ⊢
/-- the byte that i2b leaves of a char -/
def lo8 (x : Int32) : Int32 := x.toInt8.toInt32
theorem fits_lo8 (y : Int32) : fits .byte (.int (lo8 y)) = true := by
  have h1 := y.toInt8.le_toInt
  have h2 := y.toInt8.toInt_lt
  simp only [lo8, fits, Bool.and_eq_true, decide_eq_true_eq, Int32.le_iff_toInt_le, Int8.toInt_toInt32, show (-128 : Int32).toInt = -128 from by decide, show (127 : Int32).toInt = 127 from by decide]
  omega
/-- A' is A but that each place j of lo .. hi - 1 holds f j -/
def Laid (A A' : Cell) (lo hi : Nat) (f : Nat → Value) : Prop := A'.cls = A.cls ∧ A'.vm = A.vm ∧ A'.slots.size = A.slots.size ∧ ∀ i, A'.slots[i]? = if lo ≤ i ∧ i < hi then some (f i) else A.slots[i]?
theorem Laid.zero (A : Cell) (lo : Nat) (f : Nat → Value) : Laid A A lo (lo + 0) f := ⟨rfl, rfl, rfl, fun i => by rw [if_neg (by omega)]⟩
theorem Laid.step {A Ak : Cell} {lo k : Nat} {f : Nat → Value} {v : Value} (h : Laid A Ak lo k f) (hlo : lo ≤ k) (hk : k < Ak.slots.size) (hv : v = f k) : Laid A (Ak.setSlot k v) lo (k + 1) f := by
  refine ⟨h.1, h.2.1, by simpa [Cell.setSlot] using h.2.2.1, fun i => ?_⟩
  by_cases e : k = i
  · subst e; rw [Cell.slots_setSlot_self v hk, if_pos (by omega), hv]
  · rw [Cell.slots_setSlot_ne v e, h.2.2.2 i]
    by_cases q : lo ≤ i ∧ i < k
    · rw [if_pos q, if_pos (by omega)]
    · rw [if_neg q, if_neg (by omega)]
def U16 : String := "java/lang/StringUTF16"
namespace Cmp5
def yN : MethodName := ⟨"java/lang/StringUTF16", "compress", "([CI[BII)I"⟩
abbrev yB : ByteArray := jdk_52_method_21_code
theorem d0 : decode yB 0 = .ok (.iconst 0, 1) := by decide +kernel
theorem d1 : decode yB 1 = .ok (.istore 5, 2) := by decide +kernel
theorem d3 : decode yB 3 = .ok (.iload 5, 2) := by decide +kernel
theorem d5 : decode yB 5 = .ok (.iload 4, 2) := by decide +kernel
theorem d7 : decode yB 7 = .ok (.if_icmp (.ge) 37, 3) := by decide +kernel
theorem d10 : decode yB 10 = .ok (.aload_n 0, 1) := by decide +kernel
theorem d11 : decode yB 11 = .ok (.iload_n 1, 1) := by decide +kernel
theorem d12 : decode yB 12 = .ok (.caload, 1) := by decide +kernel
theorem d13 : decode yB 13 = .ok (.istore 6, 2) := by decide +kernel
theorem d15 : decode yB 15 = .ok (.iload 6, 2) := by decide +kernel
theorem d17 : decode yB 17 = .ok (.sipush 255, 3) := by decide +kernel
theorem d20 : decode yB 20 = .ok (.if_icmp (.le) 6, 3) := by decide +kernel
theorem d26 : decode yB 26 = .ok (.aload_n 2, 1) := by decide +kernel
theorem d27 : decode yB 27 = .ok (.iload_n 3, 1) := by decide +kernel
theorem d28 : decode yB 28 = .ok (.iload 6, 2) := by decide +kernel
theorem d30 : decode yB 30 = .ok (.i2b, 1) := by decide +kernel
theorem d31 : decode yB 31 = .ok (.bastore, 1) := by decide +kernel
theorem d32 : decode yB 32 = .ok (.iinc 1 1, 3) := by decide +kernel
theorem d35 : decode yB 35 = .ok (.iinc 3 1, 3) := by decide +kernel
theorem d38 : decode yB 38 = .ok (.iinc 5 1, 3) := by decide +kernel
theorem d41 : decode yB 41 = .ok (.goto (-38), 3) := by decide +kernel
theorem d44 : decode yB 44 = .ok (.iload 4, 2) := by decide +kernel
theorem d46 : decode yB 46 = .ok (.ireturn, 1) := by decide +kernel
def site : List Cond := []
def tab : Cond := tabOf yN yB 7 (some .int) site
def P (b : Addr) (A : Cell) (d : Addr) (B : Cell) (o q len : Nat) (args : Array Value) (s : State) : Prop := args = #[.ref b, .int (Int32.ofNat o), .ref d, .int (Int32.ofNat q), .int (Int32.ofNat len)] ∧ Ch b A s ∧ Arr .byte d B s ∧ b ≠ d ∧ o + len ≤ A.slots.size ∧ q + len ≤ B.slots.size ∧ ∀ i, i < len → ¬ 255 < cv A (o + i)
def E (b : Addr) (A : Cell) (d : Addr) (B : Cell) (o q len : Nat) (r : Option Value) (s u : State) : Prop := r = some (.int (Int32.ofNat len)) ∧ ∃ B', Put d B' s u ∧ Laid B B' q (q + len) (fun j => Value.int (lo8 (cv A (o + (j - q)))))
/-- no char of the range above 255: len; the places written hold each char's low byte -/
theorem law (l : Launch) (b : Addr) (A : Cell) (d : Addr) (B : Cell) (o q len : Nat) : Law l yN 5 5 0 0 yB 7 (some .int) site (P b A d B o q len) (E b A d B o q len) (copyLocs d q len) 0 0 := by
  refine Law.of_walk (plainFor_of_name (by decide +kernel)) (by decide +kernel) (by decide +kernel) (by decide) (fun _ _ h => by rw [h.1]; rfl) (fun _ U U' hal hh h => ⟨h.1, h.2.1.mv hal hh, h.2.2.1.mv hal hh, h.2.2.2⟩) (fun r U U' V V' h1 hal h2 h => ⟨h.1, h.2.elim fun B' q => ⟨B', q.1.mv h1 h2, q.2⟩⟩) ?_
  intro p e s m args below meth c s₁ X0 hexec hbytes hml hret hlk hnm hown hh0 W hP
  obtain ⟨rfl, hA, hB, hne, l1, l2, hp⟩ := hP
  have c1 : Steps p.tables e below (s₁.setTop (entryFrame m #[.ref b, .int (Int32.ofNat o), .ref d, .int (Int32.ofNat q), .int (Int32.ofNat len)] 7)) (s₁.setTop (mkF m 0 #[.val (.ref b), .val (.int (Int32.ofNat o)), .val (.ref d), .val (.int (Int32.ofNat q)), .val (.int (Int32.ofNat len)), .unset, .unset] [])) := entry rfl
  have hA0 := hA.1.mv X0.warmed.alike hh0
  have hB0 := hB.mv X0.warmed.alike hh0
  have a31 := hA.1.2.2.2
  have c2 : Steps p.tables e below (s₁.setTop (entryFrame m #[.ref b, .int (Int32.ofNat o), .ref d, .int (Int32.ofNat q), .int (Int32.ofNat len)] 7)) (s₁.setTop (mkF m 3 #[.val (.ref b), .val (.int (Int32.ofNat o)), .val (.ref d), .val (.int (Int32.ofNat q)), .val (.int (Int32.ofNat len)), .val (.int 0), .unset] [])) := c1.trans (by
    refine iconstV X0.here hexec rfl 0 (hb hbytes d0) (by decide) ?_
    refine XS.istore X0.here hexec rfl (hb hbytes d1) rfl rfl ?_
    exact Steps.refl _)
  have loop : ∀ (r i : Nat), i + r = len → ∀ (z : Slot), (z = .unset ∨ ∃ w, z = .val w ∧ w.category = 1) → ∀ (Tl : State) (Bk : Cell), Stand p l e { frames := 0, locals := 0, cells := 0, slots := 0 } s m #[.ref b, .int (Int32.ofNat o), .ref d, .int (Int32.ofNat q), .int (Int32.ofNat len)] below meth c Tl ([] ++ copyLocs d q i) 0 0 → Put d Bk s₁ Tl → Laid B Bk q (q + i) (fun j => Value.int (lo8 (cv A (o + (j - q))))) →
      Steps p.tables e below (s₁.setTop (entryFrame m #[.ref b, .int (Int32.ofNat o), .ref d, .int (Int32.ofNat q), .int (Int32.ofNat len)] 7)) (Tl.setTop (mkF m 3 #[.val (.ref b), .val (.int (Int32.ofNat (o + i))), .val (.ref d), .val (.int (Int32.ofNat (q + i))), .val (.int (Int32.ofNat len)), .val (.int (Int32.ofNat i)), z] [])) → ∃ (T' : State) (B' : Cell) (z' : Slot), Stand p l e { frames := 0, locals := 0, cells := 0, slots := 0 } s m #[.ref b, .int (Int32.ofNat o), .ref d, .int (Int32.ofNat q), .int (Int32.ofNat len)] below meth c T' ([] ++ copyLocs d q len) 0 0 ∧ Put d B' s₁ T' ∧ Laid B B' q (q + len) (fun j => Value.int (lo8 (cv A (o + (j - q))))) ∧
      Steps p.tables e below (s₁.setTop (entryFrame m #[.ref b, .int (Int32.ofNat o), .ref d, .int (Int32.ofNat q), .int (Int32.ofNat len)] 7)) (T'.setTop (mkF m 3 #[.val (.ref b), .val (.int (Int32.ofNat (o + len))), .val (.ref d), .val (.int (Int32.ofNat (q + len))), .val (.int (Int32.ofNat len)), .val (.int (Int32.ofNat len)), z'] [])) := by
    intro r
    induction r with
    | zero =>
      intro i hi z hz Tl Bk Xl pl fl cl
      have hil : i = len := by omega
      rw [hil] at Xl fl cl
      exact ⟨Tl, Bk, z, Xl, pl, fl, cl⟩
    | succ r ih =>
      intro i hi z hz Tl Bk Xl pl fl cl
      have all := X0.warmed.alike.symm.trans Xl.warmed.alike
      have hAl := hA0.keep all (pl.other hne hA0.1)
      have hBk := hB0.like all pl.1 fl.1 fl.2.1 fl.2.2.1
      have hlt : q + i < Bk.slots.size := by rw [fl.2.2.1]; omega
      have c3 : Steps p.tables e below (s₁.setTop (entryFrame m #[.ref b, .int (Int32.ofNat o), .ref d, .int (Int32.ofNat q), .int (Int32.ofNat len)] 7)) (Tl.setTop (mkF m 12 #[.val (.ref b), .val (.int (Int32.ofNat (o + i))), .val (.ref d), .val (.int (Int32.ofNat (q + i))), .val (.int (Int32.ofNat len)), .val (.int (Int32.ofNat i)), z] [.int (Int32.ofNat (o + i)), .ref b])) := cl.trans (by
        refine XS.iload Xl.here hexec rfl (hb hbytes d3) rfl ?_
        refine XS.iload Xl.here hexec rfl (hb hbytes d5) rfl ?_
        refine XS.icmpNo Xl.here hexec rfl (hb hbytes d7) rfl (ii_ge_f (lt32 (by omega) (by omega))) ?_
        refine XS.aloadN Xl.here hexec rfl (hb hbytes d10) rfl rfl ?_
        refine XS.iloadN Xl.here hexec rfl (hb hbytes d11) rfl ?_
        exact Steps.refl _)
      have c4 : Steps p.tables e below (s₁.setTop (entryFrame m #[.ref b, .int (Int32.ofNat o), .ref d, .int (Int32.ofNat q), .int (Int32.ofNat len)] 7)) (Tl.setTop (mkF m 13 #[.val (.ref b), .val (.int (Int32.ofNat (o + i))), .val (.ref d), .val (.int (Int32.ofNat (q + i))), .val (.int (Int32.ofNat len)), .val (.int (Int32.ofNat i)), z] [.int (cv A (o + i))])) := c3.trans (by
        refine Xl.aget hexec hAl rfl (hA.get (i := o + i) (by omega)) rfl rfl (hb hbytes d12) ?_
        exact Steps.refl _)
      have c5 : Steps p.tables e below (s₁.setTop (entryFrame m #[.ref b, .int (Int32.ofNat o), .ref d, .int (Int32.ofNat q), .int (Int32.ofNat len)] 7)) (Tl.setTop (mkF m 15 #[.val (.ref b), .val (.int (Int32.ofNat (o + i))), .val (.ref d), .val (.int (Int32.ofNat (q + i))), .val (.int (Int32.ofNat len)), .val (.int (Int32.ofNat i)), .val (.int (cv A (o + i)))] [])) := c4.trans (by
        refine XS.istoreS Xl.here hexec rfl (hb hbytes d13) rfl rfl hz ?_
        exact Steps.refl _)
      have c6 : Steps p.tables e below (s₁.setTop (entryFrame m #[.ref b, .int (Int32.ofNat o), .ref d, .int (Int32.ofNat q), .int (Int32.ofNat len)] 7)) (Tl.setTop (mkF m 31 #[.val (.ref b), .val (.int (Int32.ofNat (o + i))), .val (.ref d), .val (.int (Int32.ofNat (q + i))), .val (.int (Int32.ofNat len)), .val (.int (Int32.ofNat i)), .val (.int (cv A (o + i)))] [.int (lo8 (cv A (o + i))), .int (Int32.ofNat (q + i)), .ref d])) := c5.trans (by
        refine XS.iload Xl.here hexec rfl (hb hbytes d15) rfl ?_
        refine sipushV Xl.here hexec rfl 255 (hb hbytes d17) (by decide) ?_
        refine XS.icmpYes Xl.here hexec rfl (pc0 := 20) rfl (hb hbytes d20) rfl (ii_le_t (hp i (by omega))) (by decide) rfl ?_
        refine XS.aloadN Xl.here hexec rfl (hb hbytes d26) rfl rfl ?_
        refine XS.iloadN Xl.here hexec rfl (hb hbytes d27) rfl ?_
        refine XS.iload Xl.here hexec rfl (hb hbytes d28) rfl ?_
        refine i2b Xl.here hexec rfl (hb hbytes d30) rfl ?_
        exact Steps.refl _)
      obtain ⟨T7, X7, p7, st7⟩ := Xl.aput hexec hBk rfl hlt rfl (fits_lo8 (cv A (o + i))) (g := (mkF m 31 #[.val (.ref b), .val (.int (Int32.ofNat (o + i))), .val (.ref d), .val (.int (Int32.ofNat (q + i))), .val (.int (Int32.ofNat len)), .val (.int (Int32.ofNat i)), .val (.int (cv A (o + i)))] [.int (lo8 (cv A (o + i))), .int (Int32.ofNat (q + i)), .ref d])) rfl (rest := []) rfl (hb hbytes d31)
      have c8 : Steps p.tables e below (s₁.setTop (entryFrame m #[.ref b, .int (Int32.ofNat o), .ref d, .int (Int32.ofNat q), .int (Int32.ofNat len)] 7)) (T7.setTop (mkF m 32 #[.val (.ref b), .val (.int (Int32.ofNat (o + i))), .val (.ref d), .val (.int (Int32.ofNat (q + i))), .val (.int (Int32.ofNat len)), .val (.int (Int32.ofNat i)), .val (.int (cv A (o + i)))] [])) := c6.trans (st7 _ (Steps.refl _))
      have c9 : Steps p.tables e below (s₁.setTop (entryFrame m #[.ref b, .int (Int32.ofNat o), .ref d, .int (Int32.ofNat q), .int (Int32.ofNat len)] 7)) (T7.setTop (mkF m 3 #[.val (.ref b), .val (.int (Int32.ofNat (o + i) + 1)), .val (.ref d), .val (.int (Int32.ofNat (q + i) + 1)), .val (.int (Int32.ofNat len)), .val (.int (Int32.ofNat i + 1)), .val (.int (cv A (o + i)))] [])) := c8.trans (by
        refine iincV X7.here hexec rfl 1 (hb hbytes d32) (by decide) rfl rfl ?_
        refine iincV X7.here hexec rfl 1 (hb hbytes d35) (by decide) rfl rfl ?_
        refine iincV X7.here hexec rfl 1 (hb hbytes d38) (by decide) rfl rfl ?_
        refine XS.goto X7.here hexec rfl (pc0 := 41) rfl (hb hbytes d41) (by decide) rfl ?_
        exact Steps.refl _)
      have c10 : Steps p.tables e below (s₁.setTop (entryFrame m #[.ref b, .int (Int32.ofNat o), .ref d, .int (Int32.ofNat q), .int (Int32.ofNat len)] 7)) (T7.setTop (mkF m 3 #[.val (.ref b), .val (.int (Int32.ofNat (o + (i + 1)))), .val (.ref d), .val (.int (Int32.ofNat (q + (i + 1)))), .val (.int (Int32.ofNat len)), .val (.int (Int32.ofNat (i + 1))), .val (.int (cv A (o + i)))] [])) := by
        have := c9
        rw [succ32, succ32, succ32] at this
        exact this
      exact ih (i + 1) (by omega) _ (Or.inr ⟨_, rfl, rfl⟩) T7 _ (by rw [copyLocs_step, ← List.append_assoc]; exact X7) (pl.trans p7) (fl.step (by omega) hlt (by simp)) c10
  obtain ⟨T9, B9, z9, X9, p9, f9, g9⟩ := loop len 0 (by omega) .unset (Or.inl rfl) s₁ B (by simpa [copyLocs] using X0) ⟨hB0.1, fun _ _ => rfl, rfl⟩ (Laid.zero _ _ _) c2
  have c11 : Steps p.tables e below (s₁.setTop (entryFrame m #[.ref b, .int (Int32.ofNat o), .ref d, .int (Int32.ofNat q), .int (Int32.ofNat len)] 7)) (T9.setTop (mkF m 46 #[.val (.ref b), .val (.int (Int32.ofNat (o + len))), .val (.ref d), .val (.int (Int32.ofNat (q + len))), .val (.int (Int32.ofNat len)), .val (.int (Int32.ofNat len)), z9] [.int (Int32.ofNat len)])) := g9.trans (by
    refine XS.iload X9.here hexec rfl (hb hbytes d3) rfl ?_
    refine XS.iload X9.here hexec rfl (hb hbytes d5) rfl ?_
    refine XS.icmpYes X9.here hexec rfl (pc0 := 7) rfl (hb hbytes d7) rfl (ii_ge_t (nlt32 (by omega) (Nat.le_refl _))) (by decide) rfl ?_
    refine XS.iload X9.here hexec rfl (hb hbytes d44) rfl ?_
    exact Steps.refl _)
  exact ⟨T9, some (.int (Int32.ofNat len)), _, _, _, X9, by simp, rfl, rfl, (fun h => by cases h), ⟨rfl, B9, p9.from hh0, f9⟩, fun fs hl => c11.trans (X9.ireturnOut hexec hret rfl (Or.inl rfl) (hb hbytes d46) hl)⟩
end Cmp5
namespace Cmp3
def yN : MethodName := ⟨"java/lang/StringUTF16", "compress", "([CII)[B"⟩
abbrev yB : ByteArray := jdk_52_method_16_code
theorem d0 : decode yB 0 = .ok (.iload_n 2, 1) := by decide +kernel
theorem d1 : decode yB 1 = .ok (.newarray .byte, 2) := by decide +kernel
theorem d3 : decode yB 3 = .ok (.astore_n 3, 1) := by decide +kernel
theorem d4 : decode yB 4 = .ok (.aload_n 0, 1) := by decide +kernel
theorem d5 : decode yB 5 = .ok (.iload_n 1, 1) := by decide +kernel
theorem d6 : decode yB 6 = .ok (.aload_n 3, 1) := by decide +kernel
theorem d7 : decode yB 7 = .ok (.iconst 0, 1) := by decide +kernel
theorem d8 : decode yB 8 = .ok (.iload_n 2, 1) := by decide +kernel
theorem d9 : decode yB 9 = .ok (.invokestatic 115, 3) := by decide +kernel
theorem d12 : decode yB 12 = .ok (.istore 4, 2) := by decide +kernel
theorem d14 : decode yB 14 = .ok (.iload 4, 2) := by decide +kernel
theorem d16 : decode yB 16 = .ok (.iload_n 2, 1) := by decide +kernel
theorem d17 : decode yB 17 = .ok (.if_icmp (.eq) 40, 3) := by decide +kernel
theorem d57 : decode yB 57 = .ok (.aload_n 3, 1) := by decide +kernel
theorem d58 : decode yB 58 = .ok (.areturn, 1) := by decide +kernel
def site : List Cond := [.arrayClass .byte, Cmp5.tab] ++ staticW U16 115 Cmp5.yN
def tab : Cond := tabOf yN yB 6 (some (.array .byte)) site
def P (b : Addr) (A : Cell) (o len : Nat) (args : Array Value) (s : State) : Prop := args = #[.ref b, .int (Int32.ofNat o), .int (Int32.ofNat len)] ∧ Ch b A s ∧ o + len ≤ A.slots.size ∧ len ≤ 536870912 ∧ ∀ i, i < len → ¬ 255 < cv A (o + i)
def E (b : Addr) (A : Cell) (o len : Nat) (r : Option Value) (s u : State) : Prop := NewArr .byte "[B" len (fun j => .int (lo8 (cv A (o + j)))) r s u ∧ u.heap.size = s.heap.size + 1
/-- no char of the range above 255: a new byte[] of their low bytes -/
theorem law (l : Launch) (b : Addr) (A : Cell) (o len : Nat) : Law l yN 3 3 1 18 yB 6 (some (.array .byte)) site (P b A o len) (E b A o len) [] 1 len := by
  refine Law.of_walk (plainFor_of_name (by decide +kernel)) (by decide +kernel) (by decide +kernel) (by decide) (fun _ _ h => by rw [h.1]; rfl) (fun _ U U' hal hh h => ⟨h.1, h.2.1.mv hal hh, h.2.2⟩) (fun r U U' V V' h1 hal h2 h => ⟨NewArr.mv r U U' V V' h1 hal h2 h.1, by rw [h1, h2]; exact h.2⟩) ?_
  intro p e s m args below meth c s₁ X0 hexec hbytes hml hret hlk hnm hown hh0 W hP
  obtain ⟨rfl, hA, l1, l2, hp⟩ := hP
  have a31 := hA.1.2.2.2
  have c1 : Steps p.tables e below (s₁.setTop (entryFrame m #[.ref b, .int (Int32.ofNat o), .int (Int32.ofNat len)] 6)) (s₁.setTop (mkF m 0 #[.val (.ref b), .val (.int (Int32.ofNat o)), .val (.int (Int32.ofNat len)), .unset, .unset, .unset] [])) := entry rfl
  have c2 : Steps p.tables e below (s₁.setTop (entryFrame m #[.ref b, .int (Int32.ofNat o), .int (Int32.ofNat len)] 6)) (s₁.setTop (mkF m 1 #[.val (.ref b), .val (.int (Int32.ofNat o)), .val (.int (Int32.ofNat len)), .unset, .unset, .unset] [.int (Int32.ofNat len)])) := c1.trans (by
    refine XS.iloadN X0.here hexec rfl (hb hbytes d0) rfl ?_
    exact Steps.refl _)
  obtain ⟨T3, B3, X3, ba3, bs3, bv3, bh3, bf3, st3⟩ := X0.anew hexec (atype := .byte) (wk W (.arrayClass .byte)) rfl (by show len * 1 ≤ _; omega) (by omega) (g := (mkF m 1 #[.val (.ref b), .val (.int (Int32.ofNat o)), .val (.int (Int32.ofNat len)), .unset, .unset, .unset] [.int (Int32.ofNat len)])) rfl (hb hbytes d1) (rest := []) rfl (Nat.le_refl _) (by show 0 + len ≤ len; omega)
  rw [hh0] at ba3 st3
  have kp3 : XT.Kept s T3 := (XT.Kept.of_eq hh0).push bh3
  have hA3 := hA.keep X3.warmed.alike (kp3 _ _ hA.1.1)
  have hne : b ≠ s.heap.size := hA.1.ne
  have c4 : Steps p.tables e below (s₁.setTop (entryFrame m #[.ref b, .int (Int32.ofNat o), .int (Int32.ofNat len)] 6)) (T3.setTop (mkF m 3 #[.val (.ref b), .val (.int (Int32.ofNat o)), .val (.int (Int32.ofNat len)), .unset, .unset, .unset] [.ref s.heap.size])) := c2.trans (st3 _ (Steps.refl _))
  have c5 : Steps p.tables e below (s₁.setTop (entryFrame m #[.ref b, .int (Int32.ofNat o), .int (Int32.ofNat len)] 6)) (T3.setTop (mkF m 9 #[.val (.ref b), .val (.int (Int32.ofNat o)), .val (.int (Int32.ofNat len)), .val (.ref s.heap.size), .unset, .unset] [.int (Int32.ofNat len), .int 0, .ref s.heap.size, .int (Int32.ofNat o), .ref b])) := c4.trans (by
    refine XS.astoreN X3.here hexec rfl (hb hbytes d3) rfl rfl rfl ?_
    refine XS.aloadN X3.here hexec rfl (hb hbytes d4) rfl rfl ?_
    refine XS.iloadN X3.here hexec rfl (hb hbytes d5) rfl ?_
    refine XS.aloadN X3.here hexec rfl (hb hbytes d6) rfl rfl ?_
    refine iconstV X3.here hexec rfl 0 (hb hbytes d7) (by decide) ?_
    refine XS.iloadN X3.here hexec rfl (hb hbytes d8) rfl ?_
    exact Steps.refl _)
  obtain ⟨v6, T6, X6, E6, g6⟩ := X3.callS hexec (Cmp5.law l b A s.heap.size B3 o 0 len) hown (wks W (staticW U16 115 Cmp5.yN)) (wk W Cmp5.tab) (W := 0) (Nat.le_of_ble_eq_true rfl) (Nat.le_of_ble_eq_true rfl) (Nat.le_refl _) (by show 0 + len + 0 ≤ len; omega) (g := (mkF m 9 #[.val (.ref b), .val (.int (Int32.ofNat o)), .val (.int (Int32.ofNat len)), .val (.ref s.heap.size), .unset, .unset] [.int (Int32.ofNat len), .int (Int32.ofNat 0), .ref s.heap.size, .int (Int32.ofNat o), .ref b])) rfl (by rw [hml]; rfl) c5 (argsL := [.ref b, .int (Int32.ofNat o), .ref s.heap.size, .int (Int32.ofNat 0), .int (Int32.ofNat len)]) (rest := []) rfl rfl (by show 2 * 0 + 0 ≤ _; decide) (hb hbytes d9) (⟨rfl, hA3, ba3, hne, l1, by rw [bs3]; simp, hp⟩)
  obtain ⟨rfl, B6, p6, f6⟩ := E6
  have c7 : Steps p.tables e below (s₁.setTop (entryFrame m #[.ref b, .int (Int32.ofNat o), .int (Int32.ofNat len)] 6)) (T6.setTop (mkF m 12 #[.val (.ref b), .val (.int (Int32.ofNat o)), .val (.int (Int32.ofNat len)), .val (.ref s.heap.size), .unset, .unset] [.int (Int32.ofNat len)])) := g6
  have c8 : Steps p.tables e below (s₁.setTop (entryFrame m #[.ref b, .int (Int32.ofNat o), .int (Int32.ofNat len)] 6)) (T6.setTop (mkF m 58 #[.val (.ref b), .val (.int (Int32.ofNat o)), .val (.int (Int32.ofNat len)), .val (.ref s.heap.size), .val (.int (Int32.ofNat len)), .unset] [.ref s.heap.size])) := c7.trans (by
    refine XS.istore X6.here hexec rfl (hb hbytes d12) rfl rfl ?_
    refine XS.iload X6.here hexec rfl (hb hbytes d14) rfl ?_
    refine XS.iloadN X6.here hexec rfl (hb hbytes d16) rfl ?_
    refine XS.icmpYes X6.here hexec rfl (pc0 := 17) rfl (hb hbytes d17) rfl (ii_eq_t rfl) (by decide) rfl ?_
    refine XS.aloadN X6.here hexec rfl (hb hbytes d57) rfl rfl ?_
    exact Steps.refl _)
  have X8 := X6.wide (L' := []) (cells' := 1) (slots' := len) (fun x hx hlt => by
    simp only [List.nil_append, copyLocs, List.mem_map, List.mem_range] at hx
    obtain ⟨i, -, rfl⟩ := hx
    exact absurd hlt (Nat.lt_irrefl _)) (Nat.le_refl _) (by omega)
  exact ⟨T6, some (.ref s.heap.size), _, _, _, X8, rfl, rfl, rfl, (fun h => by cases h), ⟨⟨rfl, B6, ba3.like (X3.warmed.alike.symm.trans X6.warmed.alike) p6.1 f6.1 f6.2.1 f6.2.2.1, f6.2.1.trans bv3, by rw [X6.warmed.alike.findClass, f6.1]; exact bf3, by rw [f6.2.2.1, bs3]; simp, fun j hj => by rw [f6.2.2.2 j, if_pos (by omega)]; rfl, kp3.put p6 (Nat.le_refl _)⟩, by rw [p6.2.2, bh3, hh0]; simp⟩, fun fs hl => c8.trans (X8.areturnOut hexec rfl hret rfl (hb hbytes d58) hl)⟩
end Cmp3
namespace CodL
def yN : MethodName := ⟨"java/lang/StringUTF16", "coderFromArrayLen", "([BI)B"⟩
abbrev yB : ByteArray := jdk_52_method_15_code
theorem d0 : decode yB 0 = .ok (.iload_n 1, 1) := by decide +kernel
theorem d1 : decode yB 1 = .ok (.aload_n 0, 1) := by decide +kernel
theorem d2 : decode yB 2 = .ok (.arraylength, 1) := by decide +kernel
theorem d3 : decode yB 3 = .ok (.isub, 1) := by decide +kernel
theorem d4 : decode yB 4 = .ok (.bipush 31, 2) := by decide +kernel
theorem d6 : decode yB 6 = .ok (.iushr, 1) := by decide +kernel
theorem d7 : decode yB 7 = .ok (.i2b, 1) := by decide +kernel
theorem d8 : decode yB 8 = .ok (.ireturn, 1) := by decide +kernel
def site : List Cond := []
def tab : Cond := tabOf yN yB 2 (some .byte) site
def P (d : Addr) (B : Cell) (args : Array Value) (s : State) : Prop := args = #[.ref d, .int (Int32.ofNat B.slots.size)] ∧ Arr .byte d B s
def E (r : Option Value) (s u : State) : Prop := XT.PureE (some (.int 0)) r s u
/-- an array as long as the number of chars: LATIN1 -/
theorem law (l : Launch) (d : Addr) (B : Cell) : Law l yN 2 2 0 0 yB 2 (some .byte) site (P d B) E [] 0 0 := by
  refine Law.of_walk (plainFor_of_name (by decide +kernel)) (by decide +kernel) (by decide +kernel) (by decide) (fun _ _ h => by rw [h.1]; rfl) (fun _ U U' hal hh h => ⟨h.1, h.2.mv hal hh⟩) (fun r U U' V V' h1 hal h2 h => XT.PureE.mv r U U' V V' h1 hal h2 h) ?_
  intro p e s m args below meth c s₁ X0 hexec hbytes hml hret hlk hnm hown hh0 W hP
  obtain ⟨rfl, hB⟩ := hP
  have hB0 := hB.mv X0.warmed.alike hh0
  have c1 : Steps p.tables e below (s₁.setTop (entryFrame m #[.ref d, .int (Int32.ofNat B.slots.size)] 2)) (s₁.setTop (mkF m 0 #[.val (.ref d), .val (.int (Int32.ofNat B.slots.size))] [])) := entry rfl
  have c2 : Steps p.tables e below (s₁.setTop (entryFrame m #[.ref d, .int (Int32.ofNat B.slots.size)] 2)) (s₁.setTop (mkF m 2 #[.val (.ref d), .val (.int (Int32.ofNat B.slots.size))] [.ref d, .int (Int32.ofNat B.slots.size)])) := c1.trans (by
    refine XS.iloadN X0.here hexec rfl (hb hbytes d0) rfl ?_
    refine XS.aloadN X0.here hexec rfl (hb hbytes d1) rfl rfl ?_
    exact Steps.refl _)
  have c3 : Steps p.tables e below (s₁.setTop (entryFrame m #[.ref d, .int (Int32.ofNat B.slots.size)] 2)) (s₁.setTop (mkF m 8 #[.val (.ref d), .val (.int (Int32.ofNat B.slots.size))] [.int (lo8 (ushr (Int32.ofNat B.slots.size - Int32.ofNat B.slots.size) 31))])) := c2.trans (by
    refine X0.alen hexec hB0 rfl rfl (hb hbytes d2) ?_
    refine XS.isub X0.here hexec rfl (hb hbytes d3) rfl ?_
    refine bipushV X0.here hexec rfl 31 (hb hbytes d4) (by decide) ?_
    refine iushr X0.here hexec rfl (hb hbytes d6) rfl ?_
    refine i2b X0.here hexec rfl (hb hbytes d7) rfl ?_
    exact Steps.refl _)
  have e0 : lo8 (ushr (Int32.ofNat B.slots.size - Int32.ofNat B.slots.size) 31) = 0 := by rw [Int32.sub_self]; decide
  rw [e0] at c3
  exact ⟨s₁, some (.int 0), _, _, _, X0, rfl, rfl, rfl, (fun h => by cases h), ⟨rfl, hh0⟩, fun fs hl => c3.trans (X0.ireturnOut hexec hret rfl (Or.inr (Or.inr (Or.inl rfl))) (hb hbytes d8) hl)⟩
end CodL
/-- the String at a is Latin-1 over a new byte[] (the heap's one new cell): the low bytes of the len chars of A from o on; every cell but a is kept -/
def Got (a : Addr) (D : Cell) (fV fC : Field) (A : Cell) (o len : Nat) (r : Option Value) (s u : State) : Prop := r = none ∧ ∃ D' V : Cell, Blank "java/lang/String" a D' u ∧ Same D D' [fV.slot, fC.slot] ∧ D'.slots[fV.slot]? = some (.ref s.heap.size) ∧ D'.slots[fC.slot]? = some (.int 0) ∧ Arr .byte s.heap.size V u ∧ V.vm = .none ∧ u.vm.findClass "[B" = some V.cls ∧ V.slots.size = len ∧ (∀ j, j < len → V.slots[j]? = some (.int (lo8 (cv A (o + j))))) ∧ (∀ (y : Addr) (c : Cell), y ≠ a → s.heap[y]? = some c → u.heap[y]? = some c) ∧ u.heap.size = s.heap.size + 1
theorem Got.mv {a : Addr} {D A : Cell} {fV fC : Field} {o len : Nat} : ∀ r (U U' V V' : State), U'.heap = U.heap → V.vm.Alike V'.vm → V'.heap = V.heap → Got a D fV fC A o len r U V → Got a D fV fC A o len r U' V' :=
  fun r U U' V V' h1 hal h2 ⟨e0, D', X, a1, a2, a3, a4, a5, a6, a7, a8, a9, a10, a11⟩ => ⟨e0, D', X, a1.mv hal h2, a2, by rw [h1]; exact a3, a4, by rw [h1]; exact a5.mv hal h2, a6, by rw [hal.findClass]; exact a7, a8, a9, by rw [h1, h2]; exact a10, by rw [h1, h2]; exact a11⟩
namespace New4
def yN : MethodName := ⟨"java/lang/String", "<init>", "([CIILjava/lang/Void;)V"⟩
abbrev yB : ByteArray := jdk_42_method_149_code
theorem d0 : decode yB 0 = .ok (.aload_n 0, 1) := by decide +kernel
theorem d1 : decode yB 1 = .ok (.invokespecial 1, 3) := by decide +kernel
theorem d4 : decode yB 4 = .ok (.iload_n 3, 1) := by decide +kernel
theorem d5 : decode yB 5 = .ok (.ifCond (.ne) 22, 3) := by decide +kernel
theorem d27 : decode yB 27 = .ok (.getstatic 38, 3) := by decide +kernel
theorem d30 : decode yB 30 = .ok (.ifCond (.eq) 28, 3) := by decide +kernel
theorem d33 : decode yB 33 = .ok (.aload_n 1, 1) := by decide +kernel
theorem d34 : decode yB 34 = .ok (.iload_n 2, 1) := by decide +kernel
theorem d35 : decode yB 35 = .ok (.iload_n 3, 1) := by decide +kernel
theorem d36 : decode yB 36 = .ok (.invokestatic 177, 3) := by decide +kernel
theorem d39 : decode yB 39 = .ok (.astore 5, 2) := by decide +kernel
theorem d41 : decode yB 41 = .ok (.aload_n 0, 1) := by decide +kernel
theorem d42 : decode yB 42 = .ok (.aload 5, 2) := by decide +kernel
theorem d44 : decode yB 44 = .ok (.iload_n 3, 1) := by decide +kernel
theorem d45 : decode yB 45 = .ok (.invokestatic 47, 3) := by decide +kernel
theorem d48 : decode yB 48 = .ok (.putfield 15, 3) := by decide +kernel
theorem d51 : decode yB 51 = .ok (.aload_n 0, 1) := by decide +kernel
theorem d52 : decode yB 52 = .ok (.aload 5, 2) := by decide +kernel
theorem d54 : decode yB 54 = .ok (.putfield 9, 3) := by decide +kernel
theorem d57 : decode yB 57 = .ok (.return_, 1) := by decide +kernel
def site : List Cond := [.fieldLink "java/lang/String" 38 "java/lang/String" "COMPACT_STRINGS" "Z", Cmp3.tab, CodL.tab, .laysFinal "java/lang/String" "java/lang/String" "value" "[B", .fieldLink "java/lang/String" 9 "java/lang/String" "value" "[B", .laysFinal "java/lang/String" "java/lang/String" "coder" "B", .fieldLink "java/lang/String" 15 "java/lang/String" "coder" "B"] ++ objW "java/lang/String" 1 ++ staticW "java/lang/String" 177 Cmp3.yN ++ staticW "java/lang/String" 47 CodL.yN
def tab : Cond := tabOf yN yB 6 none site
def P (a : Addr) (D : Cell) (fV fC : Field) (b : Addr) (A : Cell) (z : Int32) (o len : Nat) (args : Array Value) (s : State) : Prop := args = #[.ref a, .ref b, .int (Int32.ofNat o), .int (Int32.ofNat len), .null] ∧ Blank "java/lang/String" a D s ∧ Found "java/lang/String" "value" "[B" fV s ∧ Found "java/lang/String" "coder" "B" fC s ∧ Ch b A s ∧ StaticIs s "java/lang/String" "COMPACT_STRINGS" "Z" (.int z) ∧ ¬ z = 0 ∧ 0 < len ∧ o + len ≤ A.slots.size ∧ len ≤ 536870912 ∧ ∀ i, i < len → ¬ 255 < cv A (o + i)
def E (a : Addr) (D : Cell) (fV fC : Field) (A : Cell) (o len : Nat) (r : Option Value) (s u : State) : Prop := Got a D fV fC A o len r s u
/-- len > 0, no char of the range above 255: a Latin-1 String of their low bytes -/
theorem law (l : Launch) (a : Addr) (D : Cell) (fV fC : Field) (b : Addr) (A : Cell) (z : Int32) (o len : Nat) : Law l yN 5 4 2 35 yB 6 none site (P a D fV fC b A z o len) (E a D fV fC A o len) [⟨a, fC.slot⟩, ⟨a, fV.slot⟩] 1 len := by
  refine Law.of_walk (plainFor_of_name (by decide +kernel)) (by decide +kernel) (by decide +kernel) (by decide) (fun _ _ h => by rw [h.1]; rfl) (fun _ U U' hal hh h => ⟨h.1, h.2.1.mv hal hh, h.2.2.1.al hal, h.2.2.2.1.al hal, h.2.2.2.2.1.mv hal hh, h.2.2.2.2.2.1.there hal hh, h.2.2.2.2.2.2⟩) (fun r U U' V V' h1 hal h2 h => Got.mv r U U' V V' h1 hal h2 h) ?_
  intro p e s m args below meth c s₁ X0 hexec hbytes hml hret hlk hnm hown hh0 W hP
  obtain ⟨rfl, hB, f1, f2, hA, s1, hz, l0, l1, l2, hp⟩ := hP
  have a31 := hA.1.2.2.2
  have c1 : Steps p.tables e below (s₁.setTop (entryFrame m #[.ref a, .ref b, .int (Int32.ofNat o), .int (Int32.ofNat len), .null] 6)) (s₁.setTop (mkF m 0 #[.val (.ref a), .val (.ref b), .val (.int (Int32.ofNat o)), .val (.int (Int32.ofNat len)), .val .null, .unset] [])) := entry rfl
  have c2 : Steps p.tables e below (s₁.setTop (entryFrame m #[.ref a, .ref b, .int (Int32.ofNat o), .int (Int32.ofNat len), .null] 6)) (s₁.setTop (mkF m 1 #[.val (.ref a), .val (.ref b), .val (.int (Int32.ofNat o)), .val (.int (Int32.ofNat len)), .val .null, .unset] [.ref a])) := c1.trans (by
    refine XS.aloadN X0.here hexec rfl (hb hbytes d0) rfl rfl ?_
    exact Steps.refl _)
  obtain ⟨T3, X3, q3, st3⟩ := X0.oinit hexec hown (wks W (objW "java/lang/String" 1)) (g := (mkF m 1 #[.val (.ref a), .val (.ref b), .val (.int (Int32.ofNat o)), .val (.int (Int32.ofNat len)), .val .null, .unset] [.ref a])) rfl (by rw [hml]; rfl) (rest := []) rfl (hb hbytes d1) (W := 0) (by show 2 * 0 + 0 ≤ _; decide) (Nat.le_of_ble_eq_true rfl) (Nat.le_of_ble_eq_true rfl)
  have hh3 := q3.trans hh0
  have c4 : Steps p.tables e below (s₁.setTop (entryFrame m #[.ref a, .ref b, .int (Int32.ofNat o), .int (Int32.ofNat len), .null] 6)) (T3.setTop (mkF m 27 #[.val (.ref a), .val (.ref b), .val (.int (Int32.ofNat o)), .val (.int (Int32.ofNat len)), .val .null, .unset] [])) := (c2.trans (st3 _ (Steps.refl _))).trans (by
    refine XS.iloadN X3.here hexec rfl (hb hbytes d4) rfl ?_
    refine XS.ifYes X3.here hexec rfl (pc0 := 5) rfl (hb hbytes d5) rfl (i0_ne_t (nz32 (by omega) l0)) (by decide) rfl ?_
    exact Steps.refl _)
  obtain ⟨T5, X5, q5, st5⟩ := X3.sget hexec hown (wk W (.fieldLink "java/lang/String" 38 "java/lang/String" "COMPACT_STRINGS" "Z")) s1 (fun _ _ h => by rw [hh3]; exact h) (g := (mkF m 27 #[.val (.ref a), .val (.ref b), .val (.int (Int32.ofNat o)), .val (.int (Int32.ofNat len)), .val .null, .unset] [])) rfl (hb hbytes d27)
  have hh5 := q5.trans hh3
  have c6 : Steps p.tables e below (s₁.setTop (entryFrame m #[.ref a, .ref b, .int (Int32.ofNat o), .int (Int32.ofNat len), .null] 6)) (T5.setTop (mkF m 30 #[.val (.ref a), .val (.ref b), .val (.int (Int32.ofNat o)), .val (.int (Int32.ofNat len)), .val .null, .unset] [.int z])) := c4.trans (st5 _ (Steps.refl _))
  have c7 : Steps p.tables e below (s₁.setTop (entryFrame m #[.ref a, .ref b, .int (Int32.ofNat o), .int (Int32.ofNat len), .null] 6)) (T5.setTop (mkF m 36 #[.val (.ref a), .val (.ref b), .val (.int (Int32.ofNat o)), .val (.int (Int32.ofNat len)), .val .null, .unset] [.int (Int32.ofNat len), .int (Int32.ofNat o), .ref b])) := c6.trans (by
    refine XS.ifNo X5.here hexec rfl (hb hbytes d30) rfl (i0_eq_f hz) ?_
    refine XS.aloadN X5.here hexec rfl (hb hbytes d33) rfl rfl ?_
    refine XS.iloadN X5.here hexec rfl (hb hbytes d34) rfl ?_
    refine XS.iloadN X5.here hexec rfl (hb hbytes d35) rfl ?_
    exact Steps.refl _)
  obtain ⟨v8, T8, X8, E8, g8⟩ := X5.callS hexec (Cmp3.law l b A o len) hown (wks W (staticW "java/lang/String" 177 Cmp3.yN)) (wk W Cmp3.tab) (W := 0) (Nat.le_of_ble_eq_true rfl) (Nat.le_of_ble_eq_true rfl) (Nat.le_refl _) (by show 0 + len ≤ len; omega) (g := (mkF m 36 #[.val (.ref a), .val (.ref b), .val (.int (Int32.ofNat o)), .val (.int (Int32.ofNat len)), .val .null, .unset] [.int (Int32.ofNat len), .int (Int32.ofNat o), .ref b])) rfl (by rw [hml]; rfl) c7 (argsL := [.ref b, .int (Int32.ofNat o), .int (Int32.ofNat len)]) (rest := []) rfl rfl (by show 2 * 0 + 0 ≤ _; decide) (hb hbytes d36) (⟨rfl, hA.mv X5.warmed.alike hh5, l1, l2, hp⟩)
  obtain ⟨e8, z8⟩ := E8
  obtain ⟨rfl, N, n1, n2, n3, n4, n5, n6⟩ := NewArr.mv _ T5 s _ _ hh5.symm (Vm.Alike.refl _) rfl e8
  rw [hh5] at z8
  have hB1 := hB.keep X8.warmed.alike (n6 _ _ hB.1)
  have hne : s.heap.size ≠ a := (Nat.ne_of_lt (Array.getElem?_eq_some_iff.mp hB.1).1).symm
  have c9 : Steps p.tables e below (s₁.setTop (entryFrame m #[.ref a, .ref b, .int (Int32.ofNat o), .int (Int32.ofNat len), .null] 6)) (T8.setTop (mkF m 39 #[.val (.ref a), .val (.ref b), .val (.int (Int32.ofNat o)), .val (.int (Int32.ofNat len)), .val .null, .unset] [.ref s.heap.size])) := g8
  have c10 : Steps p.tables e below (s₁.setTop (entryFrame m #[.ref a, .ref b, .int (Int32.ofNat o), .int (Int32.ofNat len), .null] 6)) (T8.setTop (mkF m 45 #[.val (.ref a), .val (.ref b), .val (.int (Int32.ofNat o)), .val (.int (Int32.ofNat len)), .val .null, .val (.ref s.heap.size)] [.int (Int32.ofNat N.slots.size), .ref s.heap.size, .ref a])) := by
    have hc : Steps p.tables e below (s₁.setTop (entryFrame m #[.ref a, .ref b, .int (Int32.ofNat o), .int (Int32.ofNat len), .null] 6)) (T8.setTop (mkF m 45 #[.val (.ref a), .val (.ref b), .val (.int (Int32.ofNat o)), .val (.int (Int32.ofNat len)), .val .null, .val (.ref s.heap.size)] [.int (Int32.ofNat len), .ref s.heap.size, .ref a])) := c9.trans (by
      refine XS.astore X8.here hexec rfl (hb hbytes d39) rfl rfl rfl ?_
      refine XS.aloadN X8.here hexec rfl (hb hbytes d41) rfl rfl ?_
      refine XS.aload X8.here hexec rfl (hb hbytes d42) rfl rfl ?_
      refine XS.iloadN X8.here hexec rfl (hb hbytes d44) rfl ?_
      exact Steps.refl _)
    rw [n4]; exact hc
  obtain ⟨v11, T11, X11, E11, g11⟩ := X8.callS hexec (CodL.law l s.heap.size N) hown (wks W (staticW "java/lang/String" 47 CodL.yN)) (wk W CodL.tab) (W := 1) (Nat.le_of_ble_eq_true rfl) (Nat.le_of_ble_eq_true rfl) (Nat.le_refl _) (by show 0 + len + 0 ≤ len; omega) (g := (mkF m 45 #[.val (.ref a), .val (.ref b), .val (.int (Int32.ofNat o)), .val (.int (Int32.ofNat len)), .val .null, .val (.ref s.heap.size)] [.int (Int32.ofNat N.slots.size), .ref s.heap.size, .ref a])) rfl (by rw [hml]; rfl) c10 (argsL := [.ref s.heap.size, .int (Int32.ofNat N.slots.size)]) (rest := [.ref a]) rfl rfl (by show 2 * 0 + (1 + 0) ≤ _; decide) (hb hbytes d45) (⟨rfl, n1⟩)
  obtain ⟨rfl, q11⟩ := E11
  have hB11 := hB1.mv (X8.warmed.alike.symm.trans X11.warmed.alike) q11
  have c12 : Steps p.tables e below (s₁.setTop (entryFrame m #[.ref a, .ref b, .int (Int32.ofNat o), .int (Int32.ofNat len), .null] 6)) (T11.setTop (mkF m 48 #[.val (.ref a), .val (.ref b), .val (.int (Int32.ofNat o)), .val (.int (Int32.ofNat len)), .val .null, .val (.ref s.heap.size)] [.int 0, .ref a])) := g11
  obtain ⟨T13, X13, p13, bl13, sl13, st13⟩ := X11.finit hexec hown (wk W (.fieldLink "java/lang/String" 15 "java/lang/String" "coder" "B")) (Or.inr ⟨_, (wk W (.laysFinal "java/lang/String" "java/lang/String" "coder" "B"))⟩) (Or.inl ⟨rfl, hnm⟩) f2 (Or.inl rfl) hB11 (t := .byte) (by decide +kernel) rfl (g := (mkF m 48 #[.val (.ref a), .val (.ref b), .val (.int (Int32.ofNat o)), .val (.int (Int32.ofNat len)), .val .null, .val (.ref s.heap.size)] [.int 0, .ref a])) rfl (rest := []) rfl (hb hbytes d48)
  have c14 : Steps p.tables e below (s₁.setTop (entryFrame m #[.ref a, .ref b, .int (Int32.ofNat o), .int (Int32.ofNat len), .null] 6)) (T13.setTop (mkF m 54 #[.val (.ref a), .val (.ref b), .val (.int (Int32.ofNat o)), .val (.int (Int32.ofNat len)), .val .null, .val (.ref s.heap.size)] [.ref s.heap.size, .ref a])) := (c12.trans (st13 _ (Steps.refl _))).trans (by
    refine XS.aloadN X13.here hexec rfl (hb hbytes d51) rfl rfl ?_
    refine XS.aload X13.here hexec rfl (hb hbytes d52) rfl rfl ?_
    exact Steps.refl _)
  obtain ⟨T15, X15, p15, bl15, sl15, st15⟩ := X13.finit hexec hown (wk W (.fieldLink "java/lang/String" 9 "java/lang/String" "value" "[B")) (Or.inr ⟨_, (wk W (.laysFinal "java/lang/String" "java/lang/String" "value" "[B"))⟩) (Or.inl ⟨rfl, hnm⟩) f1 (Or.inl rfl) bl13 (t := (.array .byte)) (by decide +kernel) rfl (g := (mkF m 54 #[.val (.ref a), .val (.ref b), .val (.int (Int32.ofNat o)), .val (.int (Int32.ofNat len)), .val .null, .val (.ref s.heap.size)] [.ref s.heap.size, .ref a])) rfl (rest := []) rfl (hb hbytes d54)
  have c16 : Steps p.tables e below (s₁.setTop (entryFrame m #[.ref a, .ref b, .int (Int32.ofNat o), .int (Int32.ofNat len), .null] 6)) (T15.setTop (mkF m 57 #[.val (.ref a), .val (.ref b), .val (.int (Int32.ofNat o)), .val (.int (Int32.ofNat len)), .val .null, .val (.ref s.heap.size)] [])) := c14.trans (st15 _ (Steps.refl _))
  have ap := apart (Or.inr ⟨_, (wk W (.laysFinal "java/lang/String" "java/lang/String" "value" "[B"))⟩) (Or.inr ⟨_, (wk W (.laysFinal "java/lang/String" "java/lang/String" "coder" "B"))⟩) f1 f2 (t₁ := .array .byte) (t₂ := .byte) (by decide +kernel) (by decide +kernel) (by decide)
  have al := X8.warmed.alike.symm.trans X15.warmed.alike
  have n7 : T11.heap[s.heap.size]? = some N := by rw [q11]; exact n1.1
  exact ⟨T15, none, _, _, _, X15, by simp, rfl, by omega, (fun _ => rfl), ⟨rfl, _, N, bl15, ((Same.refl D _).set _ (by simp)).set _ (by simp), sl15, (Cell.slots_setSlot_ne _ ap).trans sl13, n1.keep al (p15.other hne (p13.other hne n7)), n2, by rw [al.findClass]; exact n3, n4, n5, fun y c h1 h2 => p15.other h1 (p13.other h1 (by rw [q11]; exact n6 y c h2)), by rw [p15.2.2, p13.2.2, q11]; exact z8⟩, fun fs hl => c16.trans (X15.returnOut hexec hret (hb hbytes d57) hl)⟩
end New4
namespace New1
def yN : MethodName := ⟨"java/lang/String", "<init>", "([C)V"⟩
abbrev yB : ByteArray := jdk_42_method_3_code
theorem d0 : decode yB 0 = .ok (.aload_n 0, 1) := by decide +kernel
theorem d1 : decode yB 1 = .ok (.aload_n 1, 1) := by decide +kernel
theorem d2 : decode yB 2 = .ok (.iconst 0, 1) := by decide +kernel
theorem d3 : decode yB 3 = .ok (.aload_n 1, 1) := by decide +kernel
theorem d4 : decode yB 4 = .ok (.arraylength, 1) := by decide +kernel
theorem d5 : decode yB 5 = .ok (.aconst_null, 1) := by decide +kernel
theorem d6 : decode yB 6 = .ok (.invokespecial 27, 3) := by decide +kernel
theorem d9 : decode yB 9 = .ok (.return_, 1) := by decide +kernel
def site : List Cond := [New4.tab] ++ initW "java/lang/String" 27 New4.yN
def tab : Cond := tabOf yN yB 2 none site
def P (a : Addr) (D : Cell) (fV fC : Field) (b : Addr) (A : Cell) (z : Int32) (args : Array Value) (s : State) : Prop := args = #[.ref a, .ref b] ∧ Blank "java/lang/String" a D s ∧ Found "java/lang/String" "value" "[B" fV s ∧ Found "java/lang/String" "coder" "B" fC s ∧ Ch b A s ∧ StaticIs s "java/lang/String" "COMPACT_STRINGS" "Z" (.int z) ∧ ¬ z = 0 ∧ 0 < A.slots.size ∧ A.slots.size ≤ 536870912 ∧ ∀ i, i < A.slots.size → ¬ 255 < cv A i
def E (a : Addr) (D : Cell) (fV fC : Field) (A : Cell) (r : Option Value) (s u : State) : Prop := Got a D fV fC A 0 A.slots.size r s u
/-- new String(chars), not empty, no char above 255: a Latin-1 String of their low bytes -/
theorem law (l : Launch) (a : Addr) (D : Cell) (fV fC : Field) (b : Addr) (A : Cell) (z : Int32) : Law l yN 2 1 3 52 yB 2 none site (P a D fV fC b A z) (E a D fV fC A) [⟨a, fC.slot⟩, ⟨a, fV.slot⟩] 1 A.slots.size := by
  refine Law.of_walk (plainFor_of_name (by decide +kernel)) (by decide +kernel) (by decide +kernel) (by decide) (fun _ _ h => by rw [h.1]; rfl) (fun _ U U' hal hh h => ⟨h.1, h.2.1.mv hal hh, h.2.2.1.al hal, h.2.2.2.1.al hal, h.2.2.2.2.1.mv hal hh, h.2.2.2.2.2.1.there hal hh, h.2.2.2.2.2.2⟩) (fun r U U' V V' h1 hal h2 h => Got.mv r U U' V V' h1 hal h2 h) ?_
  intro p e s m args below meth c s₁ X0 hexec hbytes hml hret hlk hnm hown hh0 W hP
  obtain ⟨rfl, hB, f1, f2, hA, s1, hz, l0, l2, hp⟩ := hP
  have c1 : Steps p.tables e below (s₁.setTop (entryFrame m #[.ref a, .ref b] 2)) (s₁.setTop (mkF m 0 #[.val (.ref a), .val (.ref b)] [])) := entry rfl
  have c2 : Steps p.tables e below (s₁.setTop (entryFrame m #[.ref a, .ref b] 2)) (s₁.setTop (mkF m 6 #[.val (.ref a), .val (.ref b)] [.null, .int (Int32.ofNat A.slots.size), .int 0, .ref b, .ref a])) := c1.trans (by
    refine XS.aloadN X0.here hexec rfl (hb hbytes d0) rfl rfl ?_
    refine XS.aloadN X0.here hexec rfl (hb hbytes d1) rfl rfl ?_
    refine iconstV X0.here hexec rfl 0 (hb hbytes d2) (by decide) ?_
    refine XS.aloadN X0.here hexec rfl (hb hbytes d3) rfl rfl ?_
    refine X0.alen hexec (hA.1.mv X0.warmed.alike hh0) rfl rfl (hb hbytes d4) ?_
    refine XS.aconstNull X0.here hexec rfl (hb hbytes d5) ?_
    exact Steps.refl _)
  obtain ⟨v3, T3, X3, E3, g3⟩ := X0.callN hexec (New4.law l a D fV fC b A z 0 A.slots.size) rfl hown (wks W (initW "java/lang/String" 27 New4.yN)) (W New4.tab (by simp only [site, List.mem_cons, List.mem_append, true_or, or_true])) (W := 0) (Nat.le_of_ble_eq_true rfl) (Nat.le_of_ble_eq_true rfl) (Nat.le_refl _) (by show 0 + A.slots.size ≤ A.slots.size; omega) (g := (mkF m 6 #[.val (.ref a), .val (.ref b)] [.null, .int (Int32.ofNat A.slots.size), .int (Int32.ofNat 0), .ref b, .ref a])) rfl (by rw [hml]; rfl) c2 (argsL := [.ref b, .int (Int32.ofNat 0), .int (Int32.ofNat A.slots.size), .null]) (rest := []) rfl rfl (by show 2 * 0 + 0 ≤ _; decide) (hb hbytes d6) (⟨rfl, hB.mv X0.warmed.alike hh0, f1.al X0.warmed.alike, f2.al X0.warmed.alike, hA.mv X0.warmed.alike hh0, s1.there X0.warmed.alike hh0, hz, l0, by omega, l2, fun i hi => by rw [Nat.zero_add]; exact hp i hi⟩)
  have e0 := Got.mv _ s₁ s _ _ hh0.symm (Vm.Alike.refl _) rfl E3
  obtain rfl := e0.1
  have c4 : Steps p.tables e below (s₁.setTop (entryFrame m #[.ref a, .ref b] 2)) (T3.setTop (mkF m 9 #[.val (.ref a), .val (.ref b)] [])) := g3
  exact ⟨T3, none, _, _, _, X3, by simp, rfl, by omega, (fun _ => rfl), e0, fun fs hl => c4.trans (X3.returnOut hexec hret (hb hbytes d9) hl)⟩
theorem pays {l : Launch} {R : Room} {p : Program} {e : Env} {below : List Frame} {s : State} {sargs : Array Value} {len W : Nat} (a : Addr) (D : Cell) (fV fC : Field) (b : Addr) (A : Cell) (z : Int32) (htab : tab.before sargs s = true) (hfr : 4 ≤ R.frames) (hlo : W + 65 ≤ R.locals) :
    Back l R p e below s sargs yN len W (fun A₁ a₁ => A₁.cells + 1 ≤ R.cells ∧ A₁.slots + A.slots.size ≤ R.slots ∧ P a D fV fC b A z a₁ A₁.U) (fun A₁ _ v₁ B₁ => E a D fV fC A v₁ A₁.U B₁.U ∧ B₁.locs = A₁.locs ++ [⟨a, fC.slot⟩, ⟨a, fV.slot⟩] ∧ B₁.cells = A₁.cells + 1 ∧ B₁.slots = A₁.slots + A.slots.size) :=
  (law l a D fV fC b A z).pays htab hfr (by omega)
end New1
/-- the byte, read back as charAt reads it, is the char -/
theorem lo8_mask {x : Int32} (h0 : ¬ x < 0) (h1 : ¬ 255 < x) : lo8 x &&& 255 = x := by
  have t : ∀ k : Fin 256, lo8 (Int32.ofNat k.val) &&& 255 = Int32.ofNat k.val := by decide +kernel
  rw [Int32.lt_iff_toInt_lt] at h0 h1
  have e0 : (0 : Int32).toInt = 0 := rfl
  have e1 : (255 : Int32).toInt = 255 := rfl
  obtain ⟨k, hk⟩ : ∃ k : Nat, x.toInt = k := ⟨x.toInt.toNat, by omega⟩
  have hx : x = Int32.ofNat k := Int32.toInt_inj.mp (by rw [hk, Int32.toInt_ofNat_small (by omega)])
  rw [hx]
  exact t ⟨k, by omega⟩
end StrChars
namespace StrChars.Road
open Jvm Sem ClassFile Op Lib Jvm.Stand Jvm.Free Jvm.Free.XT
open Jvm.Lib.Cold (StaticIs)
abbrev ST : String := "java/lang/String"
/-- every table word that New1's law asks, flat -/
abbrev words : List Jvm.Cond := [.code New1.yN New1.yB 2 none, .initialized ST, .methodLink ST 27 New4.yN, .instanceMethod New4.yN,
  .code New4.yN New4.yB 6 none, .fieldLink ST 38 ST "COMPACT_STRINGS" "Z", .laysFinal ST ST "value" "[B", .fieldLink ST 9 ST "value" "[B", .laysFinal ST ST "coder" "B", .fieldLink ST 15 ST "coder" "B",
  .methodLink ST 1 Lib.objectInit, .instanceMethod Lib.objectInit, .code Lib.objectInit ⟨#[0xb1]⟩ 1 none, .methodLink ST 177 Cmp3.yN, .static Cmp3.yN, .methodLink ST 47 CodL.yN, .static CodL.yN,
  .code Cmp3.yN Cmp3.yB 6 (some (.array .byte)), .initialized U16, .arrayClass .byte, .methodLink U16 115 Cmp5.yN, .static Cmp5.yN, .code Cmp5.yN Cmp5.yB 7 (some .int), .code CodL.yN CodL.yB 2 (some .byte)]
theorem tab_of {a : Array Value} {s : State} (h : ∀ w ∈ words, w.before a s = true) : New1.tab.before a s = true := by
  have h5 : Cmp5.tab.before a s = true := unparts (wk h (.code Cmp5.yN Cmp5.yB 7 (some .int))) (wks h (.initialized Cmp5.yN.cls :: Cmp5.site))
  have hc : CodL.tab.before a s = true := unparts (wk h (.code CodL.yN CodL.yB 2 (some .byte))) (wks h (.initialized CodL.yN.cls :: CodL.site))
  have q5 : ∀ w ∈ Cmp5.tab :: words, w.before a s = true := fun w hw => (List.mem_cons.mp hw).elim (fun e => e ▸ h5) (h w)
  have h3 : Cmp3.tab.before a s = true := unparts (wk q5 (.code Cmp3.yN Cmp3.yB 6 (some (.array .byte)))) (wks q5 (.initialized Cmp3.yN.cls :: Cmp3.site))
  have q3 : ∀ w ∈ Cmp3.tab :: CodL.tab :: words, w.before a s = true := fun w hw => (List.mem_cons.mp hw).elim (fun e => e ▸ h3) fun hw => (List.mem_cons.mp hw).elim (fun e => e ▸ hc) (h w)
  have h4 : New4.tab.before a s = true := unparts (wk q3 (.code New4.yN New4.yB 6 none)) (wks q3 (.initialized New4.yN.cls :: New4.site))
  have q4 : ∀ w ∈ New4.tab :: words, w.before a s = true := fun w hw => (List.mem_cons.mp hw).elim (fun e => e ▸ h4) (h w)
  exact unparts (wk q4 (.code New1.yN New1.yB 2 none)) (wks q4 (.initialized New1.yN.cls :: New1.site))
/-- the words ride from the start Z to the walk's own state -/
theorem moved {Z s : State} {a0 args : Array Value} (hZ : Z.Warmed39 s.vm) (hw : ∀ d ∈ words, d.before a0 Z = true) : ∀ d ∈ words, d.before args s = true := fun d hd => by
  have q := hw d hd
  have t : ∀ d ∈ words, d = .arrayClass .byte ∨ (d.onTables && d.keepsFace) = true := by decide +kernel
  rcases t d hd with rfl | t
  · exact RoadKit.mvA hZ q
  · exact RoadKit.mv hZ q t
/-- WHAT COMES BACK, over the tables of the start Z: h the heap at the call, h' behind it -/
def Q (Z : State) (x : Addr) (A : Cell) (h : Heap) (v : Option Value) (h' : Heap) (L : List Loc) : Prop := v = none ∧ (∀ y ∈ L, y.base = x) ∧ RoadKit.Keep h h' [x] ∧ h'.size = h.size + 1 ∧ RoadKit.Exa Z h' x ST ∧ RoadKit.Fld Z h' x ST "value" "[B" (.ref h.size) ∧ RoadKit.Fld Z h' x ST "coder" "B" (.int 0) ∧
  (∃ V : Cell, RoadKit.Arr Z h' h.size V .byte ∧ V.vm = .none ∧ Z.vm.findClass "[B" = some V.cls ∧ V.slots.size = A.slots.size ∧ ∀ j, j < A.slots.size → V.slots[j]? = some (.int (lo8 (cv A j)))) ∧
  ∀ (O n d : String) (w : Value), RoadKit.Fld Z h x O n d w → RoadKit.slotOf Z O n d ≠ RoadKit.slotOf Z ST "value" "[B" → RoadKit.slotOf Z O n d ≠ RoadKit.slotOf Z ST "coder" "B" → RoadKit.Fld Z h' x O n d w
/-- **new String(chars) AT A CALL, IN THE ROAD'S FORM**: for specialBack behind newO: x the fresh String, b the char[] with the cell A -/
theorem back {p : Program} {l : Launch} {e : Env} {R : Room} {s : State} {args : Array Value} {below : List Frame} {len W : Nat} {Z : State} {a0 : Array Value} {h : Heap} (hZ : Z.Warmed39 s.vm) (hw : ∀ d ∈ words, d.before a0 Z = true) {kI : Nat} (wi : (Jvm.Cond.instantiable ST kI).before a0 Z = true)
    {x b : Addr} {A : Cell} {z : Int32} {v0 c0 : Value} (E : RoadKit.Exa Z h x ST) (V : RoadKit.Fld Z h x ST "value" "[B" v0) (C : RoadKit.Fld Z h x ST "coder" "B" c0) (K : RoadKit.Arr Z h b A .char) (hty : Typed .char A) (S : RoadKit.Sta Z h ST "COMPACT_STRINGS" "Z" (.int z)) (hz : ¬ z = 0)
    (l0 : 0 < A.slots.size) (l2 : A.slots.size ≤ 536870912) (hp : ∀ i, i < A.slots.size → ¬ 255 < cv A i) (hfr : 4 ≤ R.frames) (hlo : W + 65 ≤ R.locals) :
    Back l R p e below s args New1.yN len W (fun P a => a = #[.ref x, .ref b] ∧ P.U.heap = h ∧ P.cells + 1 ≤ R.cells ∧ P.slots + A.slots.size ≤ R.slots)
      (fun P _ v B => ∃ L, Q Z x A h v B.U.heap L ∧ B.locs = P.locs ++ L ∧ B.cells = P.cells + 1 ∧ B.slots = P.slots + A.slots.size) := by
  intro m meth c P g ig mk a X hg hsize hdg hW hn hp'
  obtain ⟨rfl, rfl, r1, r2⟩ := hp'
  have al : Z.vm.Alike P.U.vm := hZ.alike.trans X.warmed.alike
  obtain ⟨D, cfV, kV, iV, fV, hD, gV, stV, knV, obV, asV, slV⟩ := id V
  obtain ⟨D', cfC, kC, iC, fC, hD', gC, stC, -, -, asC, slC⟩ := id C
  cases hD.symm.trans hD'
  obtain ⟨D2, kD, e1, e2, e3, e4, e5⟩ := id E
  cases hD.symm.trans e1
  obtain ⟨c2, k2, i1, i2, i3, -⟩ := Cond.instantiable_spec wi
  cases e2.symm.trans i1
  cases e3.symm.trans i2
  obtain ⟨kU, u1, u2⟩ := al.2.2 _ _ e3
  have hB : Blank ST x D P.U := ⟨hD, ⟨knV, fun q hq => by rw [hq] at obV; cases obV⟩, by rw [al.findClass]; exact e2, kU, u1, by rw [u2]; exact i3, by rw [u2]; exact e5 i3⟩
  have F1 : Found ST "value" "[B" fV P.U := ⟨SBG.found_only al ⟨cfV, kV, iV, gV⟩, stV⟩
  have F2 : Found ST "coder" "B" fC P.U := ⟨SBG.found_only al ⟨cfC, kC, iC, gC⟩, stC⟩
  have hA : Ch b A P.U := ⟨⟨K.1, State.isArrayOf_alike al K.2.1, K.2.2, by omega⟩, hty⟩
  have hS : StaticIs P.U ST "COMPACT_STRINGS" "Z" (.int z) := by
    obtain ⟨cfS, iS, kS, fS, st, cS, t1, t2, t3, t4, t5, t6, t7⟩ := S
    exact StaticIs.there (s := { Z with heap := P.U.heap }) ⟨cfS, iS, kS, fS, st, cS, t1, t2, t3, t4, t5, (fun q => by rw [q] at t6; cases t6), t7⟩ al rfl
  obtain ⟨v, B, X', ⟨⟨hv, E', V', q1, q2, q3, q4, q5, q6, q7, q8, q9, q10, q11⟩, hl, hc, hs⟩, st⟩ := New1.pays x D fV fC b A z (tab_of (moved hZ hw)) hfr hlo m meth c P g ig mk _ X hg hsize hdg hW hn ⟨r1, r2, rfl, hB, F1, F2, hA, hS, hz, l0, l2, hp⟩
  have al' : Z.vm.Alike B.U.vm := hZ.alike.trans X'.warmed.alike
  have hsz : E'.slots.size = D.slots.size := by
    obtain ⟨-, -, -, kB, w1, w2, w3⟩ := q1
    obtain ⟨kB', y1, y2⟩ := al'.2.2 _ _ e3
    rw [q2.2.1] at w1
    cases w1.symm.trans y1
    rw [w3, e5 i3, y2]
  refine ⟨v, B, X', ⟨_, ⟨hv, ?_, ⟨by omega, fun y cy hy hn' => q10 y cy (by simpa using hn') hy, fun y cy hy => ?_⟩, q11, ⟨E', _, q1.1, by rw [q2.2.1]; exact e2, by rw [q2.2.1]; exact e3, by rw [q2.1]; exact obV, fun _ => by rw [hsz]; exact e5 i3⟩,
    ⟨E', cfV, kV, iV, fV, q1.1, gV, stV, by rw [q2.1]; exact knV, by rw [q2.1]; exact obV, by rw [q2.2.1]; exact asV, q3⟩, ⟨E', cfC, kC, iC, fC, q1.1, gC, stC, by rw [q2.1]; exact knV, by rw [q2.1]; exact obV, by rw [q2.2.1]; exact asC, q4⟩,
    ⟨V', ⟨q5.1, State.isArrayOf_alike al'.symm q5.2.1, q5.2.2.1⟩, q6, by rw [← al'.findClass]; exact q7, q8, fun j hj => by have := q9 j hj; rwa [Nat.zero_add] at this⟩, fun O n d w F n1 n2 => ?_⟩, hl, hc, hs⟩, st⟩
  · intro y hy
    simp only [List.mem_cons, List.not_mem_nil, or_false] at hy
    rcases hy with rfl | rfl <;> rfl
  · by_cases q : y = x
    · subst q
      cases hD.symm.trans hy
      exact ⟨E', q1.1, q2.2.1, q2.1, hsz⟩
    · exact ⟨cy, q10 y cy q hy, rfl, rfl, rfl⟩
  · obtain ⟨D3, cf, k, i, f, g1, g2, g3, g4, g5, g6, g7⟩ := F
    cases hD.symm.trans g1
    simp only [RoadKit.slotOf, g2, gV, gC, Option.map_some, Option.getD_some] at n1 n2
    exact ⟨E', cf, k, i, f, q1.1, g2, g3, by rw [q2.1]; exact g4, by rw [q2.1]; exact g5, by rw [q2.2.1]; exact g6, by rw [q2.2.2 f.slot (by simp [n1, n2])]; exact g7⟩
end StrChars.Road
namespace StrChars.Road
open Jvm Sem ClassFile Op Lib Jvm.Stand Jvm.Free Jvm.Free.XT
/-- WHAT COMES BACK, the byte[] as a list of values -/
def QA (Z : State) (x : Addr) (zn : Int32) (cs : List Int32) (h : Heap) (v : Option Value) (h' : Heap) (L : List Loc) : Prop := v = none ∧ (∀ y ∈ L, y.base = x) ∧ RoadKit.Keep h h' [x] ∧ h'.size = h.size + 1 ∧ RoadKit.Exa Z h' x ST ∧ RoadKit.Fld Z h' x ST "value" "[B" (.ref h.size) ∧ RoadKit.Fld Z h' x ST "coder" "B" (.int 0) ∧
  (∃ kb, Z.vm.findClass "[B" = some kb ∧ RoadKit.Arv Z h' h.size kb .byte zn (cs.map fun c => .int (lo8 c)) (.int 0)) ∧
  ∀ (O n d : String) (w : Value), RoadKit.Fld Z h x O n d w → RoadKit.slotOf Z O n d ≠ RoadKit.slotOf Z ST "value" "[B" → RoadKit.slotOf Z O n d ≠ RoadKit.slotOf Z ST "coder" "B" → RoadKit.Fld Z h' x O n d w
/-- **new String(chars) AT A CALL, THE ARRAYS AS LISTS**: the char[] at b holds cs, not empty, no char above 255 -/
theorem backArv {p : Program} {l : Launch} {e : Env} {R : Room} {s : State} {args : Array Value} {below : List Frame} {len W : Nat} {Z : State} {a0 : Array Value} {h : Heap} (hZ : Z.Warmed39 s.vm) (hw : ∀ d ∈ words, d.before a0 Z = true) {kI : Nat} (wi : (Jvm.Cond.instantiable ST kI).before a0 Z = true)
    {x b : Addr} {k : ClassId} {zn z : Int32} {cs : List Int32} {dv v0 c0 : Value} (E : RoadKit.Exa Z h x ST) (V : RoadKit.Fld Z h x ST "value" "[B" v0) (C : RoadKit.Fld Z h x ST "coder" "B" c0) (K : RoadKit.Arv Z h b k .char zn (cs.map Value.int) dv) (S : RoadKit.Sta Z h ST "COMPACT_STRINGS" "Z" (.int z)) (hz : ¬ z = 0)
    (hlen : zn.toNatClampNeg = cs.length) (h0 : 0 < cs.length) (hbig : cs.length ≤ 536870912) (hall : ∀ c ∈ cs, ¬ 255 < c) (hfr : 4 ≤ R.frames) (hlo : W + 65 ≤ R.locals) :
    Back l R p e below s args New1.yN len W (fun P a => a = #[.ref x, .ref b] ∧ P.U.heap = h ∧ P.cells + 1 ≤ R.cells ∧ P.slots + cs.length ≤ R.slots)
      (fun P _ v B => ∃ L, QA Z x zn cs h v B.U.heap L ∧ B.locs = P.locs ++ L ∧ B.cells = P.cells + 1 ∧ B.slots = P.slots + cs.length) := by
  obtain ⟨A, K1, K2, K3, K4, K5, K6⟩ := K
  have e : A.slots.size = cs.length := K3.trans hlen
  have hat : ∀ (i : Nat) (hi : i < cs.length), A.slots[i]? = some (.int cs[i]) := fun i hi => by rw [K5 i (by omega)]; simp [List.getD_eq_getElem?_getD, hi]
  have hcv : ∀ (i : Nat) (hi : i < cs.length), cv A i = cs[i] := fun i hi => by unfold cv; rw [hat i hi]
  have hty : Typed .char A := fun i v hv => by
    have hi : i < A.slots.size := (Array.getElem?_eq_some_iff.mp hv).1
    have q := K5 i hi
    rw [hv] at q
    rw [Option.some.inj q]
    exact K6 i hi
  refine Back.mono (back hZ hw wi E V C K1 hty S hz (by omega) (by omega) (fun i hi => by rw [hcv i (by omega)]; exact hall _ (List.getElem_mem _)) hfr hlo) (fun P a hp => ⟨hp.1, hp.2.1, hp.2.2.1, by rw [e]; exact hp.2.2.2⟩) (fun P a v B hp hq => ?_)
  obtain ⟨L, ⟨q1, q2, q3, q4, q5, q6, q7, ⟨V', v1, v2, v3, v4, v5⟩, q9⟩, hl, hc, hs⟩ := hq
  refine ⟨L, ⟨q1, q2, q3, q4, q5, q6, q7, ⟨V'.cls, v3, V', v1, rfl, by rw [v4, e, hlen], K4, fun i hi => ?_, fun i hi => ?_⟩, q9⟩, hl, hc, by rw [hs, e]⟩
  · have hi' : i < cs.length := by omega
    rw [v5 i (by omega), hcv i hi']; simp [List.getD_eq_getElem?_getD, hi']
  · have hi' : i < cs.length := by omega
    simp only [List.getD_eq_getElem?_getD, List.getElem?_map, List.getElem?_eq_getElem hi', Option.map_some, Option.getD_some]
    exact fits_lo8 _
end StrChars.Road
namespace StrChars.Road
open Jvm Sem ClassFile Op Lib Jvm.Stand Jvm.Free Jvm.Free.XT
/-- WHAT COMES BACK, in the writer's own shape -/
def QV (Z : State) (x : Addr) (N : Int32) (bs : List Int32) (h : Heap) (n0 : Nat) (v : Option Value) (h' : Heap) (L : List Loc) : Prop := v = none ∧ RoadKit.Fr n0 L ∧ RoadKit.Keep h h' [x] ∧ RoadKit.Exa Z h' x ST ∧ RoadKit.Fld Z h' x ST "coder" "B" (.int 0) ∧
  ∃ (t : Addr) (kb : ClassId), n0 ≤ t ∧ h.size ≤ t ∧ ¬ t = x ∧ RoadKit.Fld Z h' x ST "value" "[B" (.ref t) ∧ RoadKit.Arv Z h' t kb .byte N (bs.map Value.int) (.int 0)
/-- **new String(chars) AT A CALL, FOR THE WRITER**: a char[] of n known ints, each 0 to 255 -/
theorem backV {p : Program} {l : Launch} {e : Env} {R : Room} {s : State} {args : Array Value} {below : List Frame} {len W : Nat} {Z : State} {a0 : Array Value} {h : Heap} (hZ : Z.Warmed39 s.vm) (hw : ∀ d ∈ words, d.before a0 Z = true) {kI : Nat} (wi : (Jvm.Cond.instantiable ST kI).before a0 Z = true)
    {x b : Addr} {kC : ClassId} {cs bs : List Int32} {d v0 c0 : Value} {z N : Int32} {n n0 : Nat} (hx0 : n0 ≤ x) (hh0 : n0 ≤ h.size) (E : RoadKit.Exa Z h x ST) (V : RoadKit.Fld Z h x ST "value" "[B" v0) (C : RoadKit.Fld Z h x ST "coder" "B" c0) (K : RoadKit.Arv Z h b kC .char N (cs.map Value.int) d) (S : RoadKit.Sta Z h ST "COMPACT_STRINGS" "Z" (.int z)) (hz : ¬ z = 0)
    (hn : cs.length = n) (hN : N = Int32.ofNat n) (l0 : 0 < n) (l2 : n ≤ 4000) (hp : ∀ c ∈ cs, ¬ c < 0 ∧ ¬ (255 : Int32) < c) (hb : bs = cs.map (fun c => c.toInt8.toInt32)) (hfr : 4 ≤ R.frames) (hlo : W + 65 ≤ R.locals) :
    Back l R p e below s args (⟨"java/lang/String", "<init>", "([C)V"⟩ : MethodName) len W (fun P a => a = #[.ref x, .ref b] ∧ P.U.heap = h ∧ P.cells + 1 ≤ R.cells ∧ P.slots + n ≤ R.slots)
      (fun P _ v B => ∃ L, QV Z x N bs h n0 v B.U.heap L ∧ B.locs = P.locs ++ L ∧ B.cells = P.cells + 1 ∧ B.slots = P.slots + n) := by
  subst hn hN hb
  refine Back.mono (backArv hZ hw wi E V C K S hz (n32 (by omega)) l0 (by omega) (fun c hc => (hp c hc).2) hfr hlo) (fun P a hp => hp) (fun P a v B hp hq => ?_)
  obtain ⟨L, ⟨q1, q2, q3, q4, q5, q6, q7, ⟨kb, v1, v2⟩, q9⟩, hl, hc, hs⟩ := hq
  exact ⟨L, ⟨q1, fun y hy => by rw [q2 y hy]; exact hx0, q3, q5, q7, h.size, kb, hh0, Nat.le_refl _, Nat.ne_of_gt E.lt, q6, by rw [List.map_map]; exact v2⟩, hl, hc, hs⟩
end StrChars.Road
namespace StrChars
open Jvm Sem ClassFile Op Lib Jvm.Stand Jvm.Free.XT Jvm.Free.ALB Jvm.Free.JM Jvm.Free
open Jvm.Lib.Cold (StaticIs)
def hi8 (x : Int32) : Int32 := lo8 (x >>> ((8 : Int32) &&& 31))
/-- what StringUTF16.getChar makes of two bytes -/
def pairCh (u v : Int32) : Int32 := (((u &&& 255) <<< ((0 : Int32) &&& 31)) ||| ((v &&& 255) <<< ((8 : Int32) &&& 31))).toUInt32.toUInt16.toUInt32.toInt32
theorem lo8_and (x : Int32) : (lo8 x &&& 255).toBitVec.toNat = x.toBitVec.toNat % 256 := by
  have h : (lo8 x).toBitVec = (x.toBitVec.signExtend 8).signExtend 32 := by rw [lo8, Int8.toBitVec_toInt32, Int32.toBitVec_toInt8]
  rw [Int32.toBitVec_and, BitVec.toNat_and, h]
  have e : ((x.toBitVec.signExtend 8).signExtend 32).toNat % 256 = x.toBitVec.toNat % 256 := by
    rw [BitVec.toNat_signExtend]
    have hlt := x.toBitVec.isLt
    simp only [BitVec.toNat_setWidth, BitVec.toNat_signExtend]
    split <;> split <;> omega
  rw [← e]
  exact Nat.and_two_pow_sub_one_eq_mod _ 8
theorem pair_says {c : Int32} (h0 : ¬ c < 0) (h1 : ¬ 65535 < c) : pairCh (lo8 c) (hi8 c) = c := by
  rw [Int32.lt_iff_toInt_lt] at h0 h1
  have e0 : (0 : Int32).toInt = 0 := rfl
  have e1 : (65535 : Int32).toInt = 65535 := rfl
  have hc : c.toInt = c.toBitVec.toNat := by
    have := c.toBitVec.isLt
    have e : c.toInt = c.toBitVec.toInt := rfl
    rw [e] at h0 h1
    rw [e]
    rw [BitVec.toInt_eq_toNat_cond] at h0 h1 ⊢
    split at h0 <;> split <;> omega
  have hn : c.toBitVec.toNat < 65536 := by omega
  have a1 := lo8_and c
  have a2 : (hi8 c &&& 255).toBitVec.toNat = c.toBitVec.toNat / 256 := by
    rw [hi8, lo8_and]
    have e : ((8 : Int32) &&& 31) = 8 := by decide
    rw [e, Int32.toBitVec_shiftRight]
    have e2 : ((8 : Int32).toBitVec.smod 32) = 8#32 := by decide
    rw [e2, BitVec.sshiftRight_eq', BitVec.toNat_sshiftRight_of_msb_false (by rw [BitVec.msb_eq_false_iff_two_mul_lt]; omega)]
    show c.toBitVec.toNat >>> 8 % 256 = _
    rw [Nat.shiftRight_eq_div_pow]
    omega
  unfold pairCh
  apply Int32.toBitVec_inj.mp
  apply BitVec.eq_of_toNat_eq
  have f0 : ((0 : Int32) &&& 31) = 0 := by decide
  have f8 : ((8 : Int32) &&& 31) = 8 := by decide
  rw [f0, f8]
  have g : (((lo8 c &&& 255) <<< (0 : Int32)) ||| ((hi8 c &&& 255) <<< (8 : Int32))).toBitVec.toNat = c.toBitVec.toNat := by
    rw [Int32.toBitVec_or, Int32.toBitVec_shiftLeft, Int32.toBitVec_shiftLeft]
    have s0 : ((0 : Int32).toBitVec.smod 32) = 0#32 := by decide
    have s8 : ((8 : Int32).toBitVec.smod 32) = 8#32 := by decide
    rw [s0, s8, BitVec.toNat_or]
    simp only [BitVec.shiftLeft_eq', BitVec.toNat_shiftLeft, a1, a2]
    show (c.toBitVec.toNat % 256) <<< 0 % 2 ^ 32 ||| (c.toBitVec.toNat / 256) <<< 8 % 2 ^ 32 = _
    rw [Nat.shiftLeft_zero, Nat.mod_eq_of_lt (show c.toBitVec.toNat % 256 < 2 ^ 32 by omega), Nat.mod_eq_of_lt (show (c.toBitVec.toNat / 256) <<< 8 < 2 ^ 32 by rw [Nat.shiftLeft_eq]; omega), Nat.or_comm, ← Nat.shiftLeft_add_eq_or_of_lt (by omega), Nat.shiftLeft_eq]
    omega
  show BitVec.toNat (((((lo8 c &&& 255) <<< (0 : Int32)) ||| ((hi8 c &&& 255) <<< (8 : Int32))).toBitVec.setWidth 16).setWidth 32) = _
  rw [BitVec.toNat_setWidth, BitVec.toNat_setWidth, g]
  omega
end StrChars
namespace StrChars
open Jvm Sem ClassFile Op Lib Jvm.Stand Jvm.Free.XT Jvm.Free.ALB Jvm.Free.JM Jvm.Free
open Jvm.Lib.Cold (StaticIs)
/-- the array's cell V codes the n chars f 0 .. f (n - 1) by the coder cd, as the JDK does: coder 1 just where some char is above 255 -/
def Cod (cd : Int32) (n : Nat) (f : Nat → Int32) (V : Cell) : Prop := (cd = 0 ∧ V.slots.size = n ∧ ∀ j, j < n → V.slots[j]? = some (.int (lo8 (f j))) ∧ ¬ 255 < f j) ∨ (cd = 1 ∧ V.slots.size = 2 * n ∧ (∀ j, j < n → V.slots[2 * j]? = some (.int (lo8 (f j))) ∧ V.slots[2 * j + 1]? = some (.int (hi8 (f j)))) ∧ ∃ j, j < n ∧ 255 < f j)
/-- **x is a String of the n chars f 0 .. f (n - 1)**, Latin-1 or UTF-16; its array at t has the cell V -/
def Txt (x t : Addr) (V : Cell) (cd : Int32) (n : Nat) (f : Nat → Int32) (U : State) : Prop := Exact "java/lang/String" x U ∧ Has x "java/lang/String" "value" "[B" (.ref t) U ∧ Has x "java/lang/String" "coder" "B" (.int cd) U ∧ XT.Arr .byte t V U ∧ Cod cd n f V ∧ ∀ j, j < n → ¬ f j < 0 ∧ ¬ 65535 < f j
theorem Txt.mv {x t : Addr} {V : Cell} {cd : Int32} {n : Nat} {f : Nat → Int32} {U U' : State} (h : Txt x t V cd n f U) (hal : U.vm.Alike U'.vm) (hh : U'.heap = U.heap) : Txt x t V cd n f U' := ⟨h.1.mv hal hh, h.2.1.mv hal hh, h.2.2.1.mv hal hh, h.2.2.2.1.mv hal hh, h.2.2.2.2⟩
end StrChars
namespace StrChars.Road
open Jvm Sem ClassFile Op Lib Jvm.Stand Jvm.Free Jvm.Free.XT
open Jvm.Lib.Cold (StaticIs)
theorem consq {a : Array Value} {s : State} {c : Jvm.Cond} {L : List Jvm.Cond} (h0 : c.before a s = true) (h : ∀ w ∈ L, w.before a s = true) : ∀ w ∈ c :: L, w.before a s = true := fun w hw => (List.mem_cons.mp hw).elim (fun e => e ▸ h0) (h w)
/-- the bytes of the chars cs, low before high -/
def wideBytes : List Int32 → List Value
  | [] => []
  | c :: cs => .int (lo8 c) :: .int (hi8 c) :: wideBytes cs
theorem wide_lo (d : Value) : ∀ (cs : List Int32) (j : Nat), j < cs.length → (wideBytes cs).getD (2 * j) d = .int (lo8 (cs.getD j 0))
  | [], j, h => absurd h (Nat.not_lt_zero j)
  | c :: cs, 0, _ => rfl
  | c :: cs, j + 1, h => by
    have q := wide_lo d cs j (by simpa using h)
    rw [show 2 * (j + 1) = 2 * j + 1 + 1 from by omega]
    simpa [wideBytes] using q
theorem wide_hi (d : Value) : ∀ (cs : List Int32) (j : Nat), j < cs.length → (wideBytes cs).getD (2 * j + 1) d = .int (hi8 (cs.getD j 0))
  | [], j, h => absurd h (Nat.not_lt_zero j)
  | c :: cs, 0, _ => rfl
  | c :: cs, j + 1, h => by
    have q := wide_hi d cs j (by simpa using h)
    rw [show 2 * (j + 1) + 1 = 2 * j + 1 + 1 + 1 from by omega]
    simpa [wideBytes] using q
theorem low_at (d : Value) (cs : List Int32) (j : Nat) (h : j < cs.length) : (cs.map fun c => Value.int (lo8 c)).getD j d = .int (lo8 (cs.getD j 0)) := by
  simp [List.getD_eq_getElem?_getD, h]
/-- an array of N2 bytes vs codes the chars cs by the coder cd -/
def CodA (cs : List Int32) (cd N2 : Int32) (vs : List Value) : Prop := (cd = 0 ∧ N2 = Int32.ofNat cs.length ∧ vs = (cs.map fun c => Value.int (lo8 c)) ∧ ∀ c ∈ cs, ¬ 255 < c) ∨ (cd = 1 ∧ N2 = Int32.ofNat (2 * cs.length) ∧ vs = wideBytes cs ∧ ∃ c ∈ cs, 255 < c)
theorem CodA.cod {cs : List Int32} {cd N2 : Int32} {vs : List Value} {V : Cell} (h : CodA cs cd N2 vs) (hn : 2 * cs.length < 2 ^ 31) (hs : V.slots.size = N2.toNatClampNeg) (hv : RoadKit.Has V vs (.int 0)) : Cod cd cs.length (fun j => cs.getD j 0) V := by
  rcases h with ⟨rfl, rfl, rfl, h⟩ | ⟨rfl, rfl, rfl, c, hc, hw⟩
  · rw [n32 (by omega)] at hs
    exact Or.inl ⟨rfl, hs, fun j hj => ⟨by rw [hv j (by omega), low_at _ _ _ hj], by
      have e : cs.getD j 0 = cs[j] := by simp [List.getD_eq_getElem?_getD, hj]
      show ¬ 255 < cs.getD j 0
      rw [e]; exact h _ (List.getElem_mem _)⟩⟩
  · rw [n32 (by omega)] at hs
    obtain ⟨j, hj, rfl⟩ := List.getElem_of_mem hc
    exact Or.inr ⟨rfl, hs, fun j hj => ⟨by rw [hv _ (by omega), wide_lo _ _ _ hj], by rw [hv _ (by omega), wide_hi _ _ _ hj]⟩, j, hj, by
      have e : cs.getD j 0 = cs[j] := by simp [List.getD_eq_getElem?_getD, hj]
      show 255 < cs.getD j 0
      rw [e]; exact hw⟩
/-- an object of exactly java/lang/String, its two fields found: as the laws ask it -/
theorem strObj {Z U : State} {a0 : Array Value} {kI : Nat} (wi : (Jvm.Cond.instantiable ST kI).before a0 Z = true) (al : Z.vm.Alike U.vm) {x : Addr} {v0 c0 : Value} (E : RoadKit.Exa Z U.heap x ST) (V : RoadKit.Fld Z U.heap x ST "value" "[B" v0) (C : RoadKit.Fld Z U.heap x ST "coder" "B" c0) :
    ∃ (D : Cell) (fV fC : Field), Blank ST x D U ∧ Found ST "value" "[B" fV U ∧ Found ST "coder" "B" fC U ∧ D.slots[fV.slot]? = some v0 ∧ D.slots[fC.slot]? = some c0 ∧ RoadKit.slotOf Z ST "value" "[B" = fV.slot ∧ RoadKit.slotOf Z ST "coder" "B" = fC.slot := by
  obtain ⟨D, cfV, kV, iV, fV, hD, gV, stV, knV, obV, asV, slV⟩ := V
  obtain ⟨D', cfC, kC, iC, fC, hD', gC, stC, -, -, asC, slC⟩ := C
  cases hD.symm.trans hD'
  obtain ⟨D2, kD, e1, e2, e3, e4, e5⟩ := E
  cases hD.symm.trans e1
  obtain ⟨c2, k2, i1, i2, i3, -⟩ := Cond.instantiable_spec wi
  cases e2.symm.trans i1
  cases e3.symm.trans i2
  obtain ⟨kU, u1, u2⟩ := al.2.2 _ _ e3
  exact ⟨D, fV, fC, ⟨hD, ⟨knV, fun q hq => by rw [hq] at obV; cases obV⟩, by rw [al.findClass]; exact e2, kU, u1, by rw [u2]; exact i3, by rw [u2]; exact e5 i3⟩, ⟨SBG.found_only al ⟨cfV, kV, iV, gV⟩, stV⟩, ⟨SBG.found_only al ⟨cfC, kC, iC, gC⟩, stC⟩, slV, slC, by simp [RoadKit.slotOf, gV], by simp [RoadKit.slotOf, gC]⟩
theorem sta_is {Z U : State} (al : Z.vm.Alike U.vm) {C n d : String} {v : Value} (S : RoadKit.Sta Z U.heap C n d v) : StaticIs U C n d v := by
  obtain ⟨cfS, iS, kS, fS, st, cS, t1, t2, t3, t4, t5, t6, t7⟩ := S
  exact StaticIs.there (s := { Z with heap := U.heap }) ⟨cfS, iS, kS, fS, st, cS, t1, t2, t3, t4, t5, (fun q => by rw [q] at t6; cases t6), t7⟩ al rfl
end StrChars.Road
namespace StrChars
open Jvm Sem ClassFile Op Lib Jvm.Stand Jvm.Free.XT Jvm.Free.ALB Jvm.Free.JM Jvm.Free
open Jvm.Lib.Cold (StaticIs)
/-- what place i of a byte[]'s cell holds -/
def yv (A : Cell) (i : Nat) : Int32 := match A.slots[i]? with | some (.int x) => x | _ => 0
theorem yv_get {a : Addr} {A : Cell} {U : State} (h : XT.Arr .byte a A U) (ht : Typed .byte A) {i : Nat} (hi : i < A.slots.size) : A.slots[i]? = some (.int (yv A i)) := by
  have e := Array.getElem?_eq_getElem hi
  have f := ht i _ e
  unfold yv; rw [e]
  generalize A.slots[i] = v at f
  cases v <;> simp [fits] at f ⊢
/-- the two arrays are equal, place for place -/
def EqC (A B : Cell) : Prop := A.slots.size = B.slots.size ∧ ∀ i, i < A.slots.size → yv A i = yv B i
/-- a boolean that says whether p -/
def Says01 (q : Prop) (r : Option Value) (s u : State) : Prop := ∃ v : Int32, r = some (.int v) ∧ u.heap = s.heap ∧ ((v = 1 ∧ q) ∨ (v = 0 ∧ ¬ q))
theorem Says01.mv {q : Prop} : ∀ r (U U' V V' : State), U'.heap = U.heap → V.vm.Alike V'.vm → V'.heap = V.heap → Says01 q r U V → Says01 q r U' V' :=
  fun r U U' V V' h1 _ h2 ⟨v, a, b, c⟩ => ⟨v, a, by rw [h1, h2]; exact b, c⟩
namespace LEq
def yN : MethodName := ⟨"java/lang/StringLatin1", "equals", "([B[B)Z"⟩
abbrev yB : ByteArray := jdk_43_method_13_code
theorem d0 : decode yB 0 = .ok (.aload_n 0, 1) := by decide +kernel
theorem d1 : decode yB 1 = .ok (.arraylength, 1) := by decide +kernel
theorem d2 : decode yB 2 = .ok (.aload_n 1, 1) := by decide +kernel
theorem d3 : decode yB 3 = .ok (.arraylength, 1) := by decide +kernel
theorem d4 : decode yB 4 = .ok (.if_icmp (.ne) 30, 3) := by decide +kernel
theorem d7 : decode yB 7 = .ok (.iconst 0, 1) := by decide +kernel
theorem d8 : decode yB 8 = .ok (.istore_n 2, 1) := by decide +kernel
theorem d9 : decode yB 9 = .ok (.iload_n 2, 1) := by decide +kernel
theorem d10 : decode yB 10 = .ok (.aload_n 0, 1) := by decide +kernel
theorem d11 : decode yB 11 = .ok (.arraylength, 1) := by decide +kernel
theorem d12 : decode yB 12 = .ok (.if_icmp (.ge) 20, 3) := by decide +kernel
theorem d15 : decode yB 15 = .ok (.aload_n 0, 1) := by decide +kernel
theorem d16 : decode yB 16 = .ok (.iload_n 2, 1) := by decide +kernel
theorem d17 : decode yB 17 = .ok (.baload, 1) := by decide +kernel
theorem d18 : decode yB 18 = .ok (.aload_n 1, 1) := by decide +kernel
theorem d19 : decode yB 19 = .ok (.iload_n 2, 1) := by decide +kernel
theorem d20 : decode yB 20 = .ok (.baload, 1) := by decide +kernel
theorem d21 : decode yB 21 = .ok (.if_icmp (.eq) 5, 3) := by decide +kernel
theorem d24 : decode yB 24 = .ok (.iconst 0, 1) := by decide +kernel
theorem d25 : decode yB 25 = .ok (.ireturn, 1) := by decide +kernel
theorem d26 : decode yB 26 = .ok (.iinc 2 1, 3) := by decide +kernel
theorem d29 : decode yB 29 = .ok (.goto (-20), 3) := by decide +kernel
theorem d32 : decode yB 32 = .ok (.iconst 1, 1) := by decide +kernel
theorem d33 : decode yB 33 = .ok (.ireturn, 1) := by decide +kernel
theorem d34 : decode yB 34 = .ok (.iconst 0, 1) := by decide +kernel
theorem d35 : decode yB 35 = .ok (.ireturn, 1) := by decide +kernel
def site : List Cond := []
def tab : Cond := tabOf yN yB 3 (some .boolean) site
def P (a : Addr) (A : Cell) (b : Addr) (B : Cell) (args : Array Value) (s : State) : Prop := args = #[.ref a, .ref b] ∧ XT.Arr .byte a A s ∧ Typed .byte A ∧ XT.Arr .byte b B s ∧ Typed .byte B
/-- whether two byte[] are equal, place for place -/
theorem law (l : Launch) (a : Addr) (A : Cell) (b : Addr) (B : Cell) : Law l yN 2 2 0 0 yB 3 (some .boolean) site (P a A b B) (Says01 (EqC A B)) [] 0 0 := by
  refine Law.of_walk (plainFor_of_name (by decide +kernel)) (by decide +kernel) (by decide +kernel) (by decide) (fun _ _ h => by rw [h.1]; rfl) (fun _ U U' hal hh h => ⟨h.1, h.2.1.mv hal hh, h.2.2.1, h.2.2.2.1.mv hal hh, h.2.2.2.2⟩) (fun r U U' V V' h1 hal h2 h => Says01.mv r U U' V V' h1 hal h2 h) ?_
  intro p e s m args below meth c s₁ X0 hexec hbytes hml hret hlk hnm hown hh0 W hP
  obtain ⟨rfl, hA, tA, hB, tB⟩ := hP
  have a31 := hA.2.2.2
  have b31 := hB.2.2.2
  have hA0 := hA.mv X0.warmed.alike hh0
  have hB0 := hB.mv X0.warmed.alike hh0
  have c1 : Steps p.tables e below (s₁.setTop (entryFrame m #[.ref a, .ref b] 3)) (s₁.setTop (mkF m 0 #[.val (.ref a), .val (.ref b), .unset] [])) := entry rfl
  have c2 : Steps p.tables e below (s₁.setTop (entryFrame m #[.ref a, .ref b] 3)) (s₁.setTop (mkF m 4 #[.val (.ref a), .val (.ref b), .unset] [.int (Int32.ofNat B.slots.size), .int (Int32.ofNat A.slots.size)])) := c1.trans (by
    refine XS.aloadN X0.here hexec rfl (hb hbytes d0) rfl rfl ?_
    refine X0.alen hexec hA0 rfl rfl (hb hbytes d1) ?_
    refine XS.aloadN X0.here hexec rfl (hb hbytes d2) rfl rfl ?_
    refine X0.alen hexec hB0 rfl rfl (hb hbytes d3) ?_
    exact Steps.refl _)
  by_cases hs : A.slots.size = B.slots.size
  · have c3 : Steps p.tables e below (s₁.setTop (entryFrame m #[.ref a, .ref b] 3)) (s₁.setTop (mkF m 9 #[.val (.ref a), .val (.ref b), .val (.int 0)] [])) := c2.trans (by
      refine XS.icmpNo X0.here hexec rfl (hb hbytes d4) rfl (ii_ne_f (by rw [hs])) ?_
      refine iconstV X0.here hexec rfl 0 (hb hbytes d7) (by decide) ?_
      refine XS.istoreN X0.here hexec rfl (hb hbytes d8) rfl rfl ?_
      exact Steps.refl _)
    have loop : ∀ (r i : Nat), i + r = A.slots.size → (∀ j, j < i → yv A j = yv B j) → Steps p.tables e below (s₁.setTop (entryFrame m #[.ref a, .ref b] 3)) (s₁.setTop (mkF m 9 #[.val (.ref a), .val (.ref b), .val (.int (Int32.ofNat i))] [])) → ∃ (pc : Nat) (Ls : Array Slot) (v : Int32), (pc = 25 ∨ pc = 33) ∧ ((v = 1 ∧ EqC A B) ∨ (v = 0 ∧ ¬ EqC A B)) ∧ Steps p.tables e below (s₁.setTop (entryFrame m #[.ref a, .ref b] 3)) (s₁.setTop (mkF m pc Ls [.int v])) := by
      intro r
      induction r with
      | zero =>
        intro i hi he cl
        exact ⟨33, _, 1, Or.inr rfl, Or.inl ⟨rfl, hs, fun j hj => he j (by omega)⟩, cl.trans (by
          refine XS.iloadN X0.here hexec rfl (hb hbytes d9) rfl ?_
          refine XS.aloadN X0.here hexec rfl (hb hbytes d10) rfl rfl ?_
          refine X0.alen hexec hA0 rfl rfl (hb hbytes d11) ?_
          refine XS.icmpYes X0.here hexec rfl (pc0 := 12) rfl (hb hbytes d12) rfl (ii_ge_t (nlt32 (by omega) (by omega))) (by decide) rfl ?_
          refine iconstV X0.here hexec rfl 1 (hb hbytes d32) (by decide) ?_
          exact Steps.refl _)⟩
      | succ r ih =>
        intro i hi he cl
        have c4 : Steps p.tables e below (s₁.setTop (entryFrame m #[.ref a, .ref b] 3)) (s₁.setTop (mkF m 21 #[.val (.ref a), .val (.ref b), .val (.int (Int32.ofNat i))] [.int (yv B i), .int (yv A i)])) := cl.trans (by
          refine XS.iloadN X0.here hexec rfl (hb hbytes d9) rfl ?_
          refine XS.aloadN X0.here hexec rfl (hb hbytes d10) rfl rfl ?_
          refine X0.alen hexec hA0 rfl rfl (hb hbytes d11) ?_
          refine XS.icmpNo X0.here hexec rfl (hb hbytes d12) rfl (ii_ge_f (lt32 (by omega) (by omega))) ?_
          refine XS.aloadN X0.here hexec rfl (hb hbytes d15) rfl rfl ?_
          refine XS.iloadN X0.here hexec rfl (hb hbytes d16) rfl ?_
          refine X0.aget hexec hA0 rfl (yv_get hA tA (i := i) (by omega)) rfl rfl (hb hbytes d17) ?_
          refine XS.aloadN X0.here hexec rfl (hb hbytes d18) rfl rfl ?_
          refine XS.iloadN X0.here hexec rfl (hb hbytes d19) rfl ?_
          refine X0.aget hexec hB0 rfl (yv_get hB tB (i := i) (by omega)) rfl rfl (hb hbytes d20) ?_
          exact Steps.refl _)
        by_cases hv : yv A i = yv B i
        · have c5 : Steps p.tables e below (s₁.setTop (entryFrame m #[.ref a, .ref b] 3)) (s₁.setTop (mkF m 9 #[.val (.ref a), .val (.ref b), .val (.int (Int32.ofNat i + 1))] [])) := c4.trans (by
            refine XS.icmpYes X0.here hexec rfl (pc0 := 21) rfl (hb hbytes d21) rfl (ii_eq_t hv) (by decide) rfl ?_
            refine iincV X0.here hexec rfl 1 (hb hbytes d26) (by decide) rfl rfl ?_
            refine XS.goto X0.here hexec rfl (pc0 := 29) rfl (hb hbytes d29) (by decide) rfl ?_
            exact Steps.refl _)
          rw [succ32] at c5
          exact ih (i + 1) (by omega) (fun j hj => by
            by_cases e : j = i
            · rw [e]; exact hv
            · exact he j (by omega)) c5
        · exact ⟨25, _, 0, Or.inl rfl, Or.inr ⟨rfl, fun q => hv (q.2 i (by omega))⟩, c4.trans (by
            refine XS.icmpNo X0.here hexec rfl (hb hbytes d21) rfl (ii_eq_f hv) ?_
            refine iconstV X0.here hexec rfl 0 (hb hbytes d24) (by decide) ?_
            exact Steps.refl _)⟩
    obtain ⟨pc, Ls, v, hpc, hv, cz⟩ := loop A.slots.size 0 (by omega) (fun j hj => absurd hj (Nat.not_lt_zero j)) c3
    have nv : narrow .boolean (.int v) = .int v := by rcases hv with ⟨rfl, -⟩ | ⟨rfl, -⟩ <;> rfl
    rcases hpc with rfl | rfl
    · exact ⟨s₁, some (.int v), _, _, _, X0, rfl, rfl, rfl, (fun h => by cases h), ⟨v, rfl, hh0, hv⟩, fun fs hl => cz.trans (X0.ireturnOut hexec hret nv (Or.inr (Or.inl rfl)) (hb hbytes d25) hl)⟩
    · exact ⟨s₁, some (.int v), _, _, _, X0, rfl, rfl, rfl, (fun h => by cases h), ⟨v, rfl, hh0, hv⟩, fun fs hl => cz.trans (X0.ireturnOut hexec hret nv (Or.inr (Or.inl rfl)) (hb hbytes d33) hl)⟩
  · have c3 : Steps p.tables e below (s₁.setTop (entryFrame m #[.ref a, .ref b] 3)) (s₁.setTop (mkF m 35 #[.val (.ref a), .val (.ref b), .unset] [.int 0])) := c2.trans (by
      refine XS.icmpYes X0.here hexec rfl (pc0 := 4) rfl (hb hbytes d4) rfl (ii_ne_t (ne32 a31 b31 hs)) (by decide) rfl ?_
      refine iconstV X0.here hexec rfl 0 (hb hbytes d34) (by decide) ?_
      exact Steps.refl _)
    exact ⟨s₁, some (.int 0), _, _, _, X0, rfl, rfl, rfl, (fun h => by cases h), ⟨0, rfl, hh0, Or.inr ⟨rfl, fun q => hs q.1⟩⟩, fun fs hl => c3.trans (X0.ireturnOut hexec hret rfl (Or.inr (Or.inl rfl)) (hb hbytes d35) hl)⟩
end LEq
theorem Cod.ty {cd : Int32} {n : Nat} {f : Nat → Int32} {V : Cell} (h : Cod cd n f V) : Typed .byte V := fun i v hv => by
  have hi : i < V.slots.size := (Array.getElem?_eq_some_iff.mp hv).1
  rcases h with ⟨-, k1, k2⟩ | ⟨-, k1, k2, -⟩
  · rw [(k2 i (by omega)).1] at hv; cases hv; exact fits_lo8 _
  · rcases Nat.mod_two_eq_zero_or_one i with e | e
    · obtain ⟨j, rfl⟩ : ∃ j, i = 2 * j := ⟨i / 2, by omega⟩
      rw [(k2 j (by omega)).1] at hv; cases hv; exact fits_lo8 _
    · obtain ⟨j, rfl⟩ : ∃ j, i = 2 * j + 1 := ⟨i / 2, by omega⟩
      rw [(k2 j (by omega)).2] at hv; cases hv; exact fits_lo8 _
/-- the same text -/
def SameT (n : Nat) (f : Nat → Int32) (k : Nat) (g : Nat → Int32) : Prop := n = k ∧ ∀ j, j < n → f j = g j
theorem lo8_inj {x y : Int32} (h0 : ¬ x < 0) (h1 : ¬ 255 < x) (k0 : ¬ y < 0) (k1 : ¬ 255 < y) (h : lo8 x = lo8 y) : x = y := by
  rw [← lo8_mask h0 h1, ← lo8_mask k0 k1, h]
/-- arrays coded by one coder are equal just where the texts are -/
theorem Cod.eqv {cd : Int32} {n k : Nat} {f g : Nat → Int32} {V V' : Cell} (h : Cod cd n f V) (h' : Cod cd k g V') (hf : ∀ j, j < n → ¬ f j < 0 ∧ ¬ 65535 < f j) (hg : ∀ j, j < k → ¬ g j < 0 ∧ ¬ 65535 < g j) : EqC V V' ↔ SameT n f k g := by
  have yvv : ∀ {W : Cell} {i : Nat} {x : Int32}, W.slots[i]? = some (.int x) → yv W i = x := fun q => by unfold yv; rw [q]
  rcases h with ⟨rfl, k1, k2⟩ | ⟨rfl, k1, k2, -⟩
  · rcases h' with ⟨-, m1, m2⟩ | ⟨e, -⟩
    · constructor
      · rintro ⟨e1, e2⟩
        refine ⟨by omega, fun j hj => ?_⟩
        have q := e2 j (by omega)
        rw [yvv (k2 j hj).1, yvv (m2 j (by omega)).1] at q
        exact lo8_inj (hf j hj).1 (k2 j hj).2 (hg j (by omega)).1 (m2 j (by omega)).2 q
      · rintro ⟨rfl, e2⟩
        refine ⟨by omega, fun j hj => ?_⟩
        rw [yvv (k2 j (by omega)).1, yvv (m2 j (by omega)).1, e2 j (by omega)]
    · exact absurd e (by decide)
  · rcases h' with ⟨e, -⟩ | ⟨-, m1, m2, -⟩
    · exact absurd e (by decide)
    · constructor
      · rintro ⟨e1, e2⟩
        refine ⟨by omega, fun j hj => ?_⟩
        have q1 := e2 (2 * j) (by omega)
        have q2 := e2 (2 * j + 1) (by omega)
        rw [yvv (k2 j hj).1, yvv (m2 j (by omega)).1] at q1
        rw [yvv (k2 j hj).2, yvv (m2 j (by omega)).2] at q2
        rw [← pair_says (hf j hj).1 (hf j hj).2, ← pair_says (hg j (by omega)).1 (hg j (by omega)).2, q1, q2]
      · rintro ⟨rfl, e2⟩
        refine ⟨by omega, fun i hi => ?_⟩
        rcases Nat.mod_two_eq_zero_or_one i with e | e
        · obtain ⟨j, rfl⟩ : ∃ j, i = 2 * j := ⟨i / 2, by omega⟩
          rw [yvv (k2 j (by omega)).1, yvv (m2 j (by omega)).1, e2 j (by omega)]
        · obtain ⟨j, rfl⟩ : ∃ j, i = 2 * j + 1 := ⟨i / 2, by omega⟩
          rw [yvv (k2 j (by omega)).2, yvv (m2 j (by omega)).2, e2 j (by omega)]
/-- two codings differ: so do the texts -/
theorem Cod.dif {cd cd' : Int32} {n k : Nat} {f g : Nat → Int32} {V V' : Cell} (h : Cod cd n f V) (h' : Cod cd' k g V') (hne : ¬ cd = cd') : ¬ SameT n f k g := by
  rintro ⟨rfl, e⟩
  rcases h with ⟨rfl, -, k2⟩ | ⟨rfl, -, -, j, hj, hw⟩
  · rcases h' with ⟨rfl, -⟩ | ⟨-, -, -, j, hj, hw⟩
    · exact hne rfl
    · exact (k2 j hj).2 (by rw [e j hj]; exact hw)
  · rcases h' with ⟨-, -, m2⟩ | ⟨rfl, -⟩
    · exact (m2 j hj).2 (by rw [← e j hj]; exact hw)
    · exact hne rfl
/-- an object of exactly C is an instance of C -/
theorem cinst {p : Program} {l : Launch} {e : Env} {R : Room} {s : State} {m : MethodId} {args : Array Value} {below : List Frame} {meth : Method} {c : Code} {T : State} {locs : List Loc} {cells slots : Nat} (X : Stand p l e R s m args below meth c T locs cells slots) (hexec : p.tables.exec = Jvm.exec) {own C : String} {index : Nat} (hown : s.vm.findClass own = some m.cls) (hlink : (Cond.classLink own index C).before args s = true) {a : Addr} (hE : Exact C a T)
    {g : JFrame} (hg : g.method = m) {rest : List Value} (hstack : g.stack = .ref a :: rest) (hdg : decode c.code g.pc = .ok (.instanceof index, 3)) :
    ∃ T', Stand p l e R s m args below meth c T' locs cells slots ∧ T'.heap = T.heap ∧ ∀ target, Steps p.tables e below (T'.setTop { g with pc := g.pc + 3, stack := .int 1 :: rest }) target → Steps p.tables e below (T.setTop g) target := by
  obtain ⟨cB, h1, D, h2, h3, h4⟩ := hE
  have h1' : s.vm.findClass C = some cB := by rw [← X.warmed.alike.findClass]; exact h1
  obtain ⟨vm', X', st⟩ := X.instanceofYes hexec hown hlink h2 h4 h1' (by rw [h3]; exact Jvm.Free.SB.assignable_self _ _) hg hstack hdg
  exact ⟨_, X', rfl, st⟩
theorem cself {p : Program} {l : Launch} {e : Env} {R : Room} {s : State} {m : MethodId} {args : Array Value} {below : List Frame} {meth : Method} {c : Code} {T : State} {locs : List Loc} {cells slots : Nat} (X : Stand p l e R s m args below meth c T locs cells slots) (hexec : p.tables.exec = Jvm.exec) {own C : String} {index : Nat} (hown : s.vm.findClass own = some m.cls) (hlink : (Cond.classLink own index C).before args s = true) {a : Addr} (hE : Exact C a T)
    {g : JFrame} (hg : g.method = m) {rest : List Value} (hstack : g.stack = .ref a :: rest) (hdg : decode c.code g.pc = .ok (.checkcast index, 3)) :
    ∃ T', Stand p l e R s m args below meth c T' locs cells slots ∧ T'.heap = T.heap ∧ ∀ target, Steps p.tables e below (T'.setTop { g with pc := g.pc + 3, stack := .ref a :: rest }) target → Steps p.tables e below (T.setTop g) target := by
  obtain ⟨cB, h1, D, h2, h3, h4⟩ := hE
  have h1' : s.vm.findClass C = some cB := by rw [← X.warmed.alike.findClass]; exact h1
  obtain ⟨vm', X', st⟩ := X.checkcastYes hexec hown hlink h2 h4 h1' (by rw [h3]; exact Jvm.Free.SB.assignable_self _ _) hg hstack hdg
  exact ⟨_, X', rfl, fun t h => st t (by rw [← hstack] at h; exact h)⟩
namespace SEq
def yN : MethodName := ⟨"java/lang/String", "equals", "(Ljava/lang/Object;)Z"⟩
abbrev yB : ByteArray := jdk_42_method_66_code
theorem d0 : decode yB 0 = .ok (.aload_n 0, 1) := by decide +kernel
theorem d1 : decode yB 1 = .ok (.aload_n 1, 1) := by decide +kernel
theorem d2 : decode yB 2 = .ok (.if_acmp (.ne) 5, 3) := by decide +kernel
theorem d5 : decode yB 5 = .ok (.iconst 1, 1) := by decide +kernel
theorem d6 : decode yB 6 = .ok (.ireturn, 1) := by decide +kernel
theorem d7 : decode yB 7 = .ok (.aload_n 1, 1) := by decide +kernel
theorem d8 : decode yB 8 = .ok (.instanceof 10, 3) := by decide +kernel
theorem d11 : decode yB 11 = .ok (.ifCond (.eq) 43, 3) := by decide +kernel
theorem d14 : decode yB 14 = .ok (.aload_n 1, 1) := by decide +kernel
theorem d15 : decode yB 15 = .ok (.checkcast 10, 3) := by decide +kernel
theorem d18 : decode yB 18 = .ok (.astore_n 2, 1) := by decide +kernel
theorem d19 : decode yB 19 = .ok (.getstatic 38, 3) := by decide +kernel
theorem d22 : decode yB 22 = .ok (.ifCond (.eq) 14, 3) := by decide +kernel
theorem d25 : decode yB 25 = .ok (.aload_n 0, 1) := by decide +kernel
theorem d26 : decode yB 26 = .ok (.getfield 15, 3) := by decide +kernel
theorem d29 : decode yB 29 = .ok (.aload_n 2, 1) := by decide +kernel
theorem d30 : decode yB 30 = .ok (.getfield 15, 3) := by decide +kernel
theorem d33 : decode yB 33 = .ok (.if_icmp (.ne) 21, 3) := by decide +kernel
theorem d36 : decode yB 36 = .ok (.aload_n 0, 1) := by decide +kernel
theorem d37 : decode yB 37 = .ok (.getfield 9, 3) := by decide +kernel
theorem d40 : decode yB 40 = .ok (.aload_n 2, 1) := by decide +kernel
theorem d41 : decode yB 41 = .ok (.getfield 9, 3) := by decide +kernel
theorem d44 : decode yB 44 = .ok (.invokestatic 541, 3) := by decide +kernel
theorem d47 : decode yB 47 = .ok (.ifCond (.eq) 7, 3) := by decide +kernel
theorem d50 : decode yB 50 = .ok (.iconst 1, 1) := by decide +kernel
theorem d51 : decode yB 51 = .ok (.goto 4, 3) := by decide +kernel
theorem d54 : decode yB 54 = .ok (.iconst 0, 1) := by decide +kernel
theorem d55 : decode yB 55 = .ok (.ireturn, 1) := by decide +kernel
def site : List Cond := [.classLink "java/lang/String" 10 "java/lang/String", .fieldLink "java/lang/String" 38 "java/lang/String" "COMPACT_STRINGS" "Z", .fieldLink "java/lang/String" 15 "java/lang/String" "coder" "B", .fieldLink "java/lang/String" 9 "java/lang/String" "value" "[B", LEq.tab] ++ staticW "java/lang/String" 541 LEq.yN
def tab : Cond := tabOf yN yB 3 (some .boolean) site
def P (x t : Addr) (V : Cell) (cd : Int32) (n : Nat) (f : Nat → Int32) (y t' : Addr) (V' : Cell) (cd' : Int32) (k : Nat) (g : Nat → Int32) (z : Int32) (args : Array Value) (s : State) : Prop := args = #[.ref x, .ref y] ∧ Txt x t V cd n f s ∧ Txt y t' V' cd' k g s ∧ StaticIs s "java/lang/String" "COMPACT_STRINGS" "Z" (.int z) ∧ ¬ z = 0
/-- equals(Object) of two Strings: whether the texts are the same -/
theorem law (l : Launch) (x t : Addr) (V : Cell) (cd : Int32) (n : Nat) (f : Nat → Int32) (y t' : Addr) (V' : Cell) (cd' : Int32) (k : Nat) (g : Nat → Int32) (z : Int32) : Law l yN 2 1 1 14 yB 3 (some .boolean) site (P x t V cd n f y t' V' cd' k g z) (Says01 (SameT n f k g)) [] 0 0 := by
  refine Law.of_walk (plainFor_of_name (by decide +kernel)) (by decide +kernel) (by decide +kernel) (by decide) (fun _ _ h => by rw [h.1]; rfl) (fun _ U U' hal hh h => ⟨h.1, h.2.1.mv hal hh, h.2.2.1.mv hal hh, h.2.2.2.1.there hal hh, h.2.2.2.2⟩) (fun r U U' V V' h1 hal h2 h => Says01.mv r U U' V V' h1 hal h2 h) ?_
  intro p e s m args below meth c s₁ X0 hexec hbytes hml hret hlk hnm hown hh0 W hP
  obtain ⟨rfl, hx, hy, s1, hz⟩ := hP
  have c1 : Steps p.tables e below (s₁.setTop (entryFrame m #[.ref x, .ref y] 3)) (s₁.setTop (mkF m 2 #[.val (.ref x), .val (.ref y), .unset] [.ref y, .ref x])) := Steps.trans (entry rfl) (by
    show Steps p.tables e below (s₁.setTop (mkF m 0 #[.val (.ref x), .val (.ref y), .unset] [])) _
    refine XS.aloadN X0.here hexec rfl (hb hbytes d0) rfl rfl ?_
    refine XS.aloadN X0.here hexec rfl (hb hbytes d1) rfl rfl ?_
    exact Steps.refl _)
  by_cases hxy : x = y
  · have c2 : Steps p.tables e below (s₁.setTop (entryFrame m #[.ref x, .ref y] 3)) (s₁.setTop (mkF m 6 #[.val (.ref x), .val (.ref y), .unset] [.int 1])) := c1.trans (by
      refine acmpNo X0.here hexec rfl (hb hbytes d2) rfl rfl rfl (by simp [acmp, hxy]) ?_
      refine iconstV X0.here hexec rfl 1 (hb hbytes d5) (by decide) ?_
      exact Steps.refl _)
    subst hxy
    have ec : cd = cd' := by
      obtain ⟨D, fd, a1, a2, a3⟩ := hx.2.2.1
      obtain ⟨D', fd', b1, b2, b3⟩ := hy.2.2.1
      cases a1.symm.trans b1
      obtain ⟨q1, q2, q3, q4⟩ := a2.1
      obtain ⟨r1, r2, r3, r4⟩ := b2.1
      cases q4.symm.trans r4
      cases a3.symm.trans b3; rfl
    have et : t = t' := by
      obtain ⟨D, fd, a1, a2, a3⟩ := hx.2.1
      obtain ⟨D', fd', b1, b2, b3⟩ := hy.2.1
      cases a1.symm.trans b1
      obtain ⟨q1, q2, q3, q4⟩ := a2.1
      obtain ⟨r1, r2, r3, r4⟩ := b2.1
      cases q4.symm.trans r4
      cases a3.symm.trans b3; rfl
    subst ec et
    have ev : V = V' := by cases hx.2.2.2.1.1.symm.trans hy.2.2.2.1.1; rfl
    subst ev
    have hs : SameT n f k g := (Cod.eqv hx.2.2.2.2.1 hy.2.2.2.2.1 hx.2.2.2.2.2 hy.2.2.2.2.2).mp ⟨rfl, fun _ _ => rfl⟩
    exact ⟨s₁, some (.int 1), _, _, _, X0, rfl, rfl, rfl, (fun h => by cases h), ⟨1, rfl, hh0, Or.inl ⟨rfl, hs⟩⟩, fun fs hl => c2.trans (X0.ireturnOut hexec hret rfl (Or.inr (Or.inl rfl)) (hb hbytes d6) hl)⟩
  · have c2 : Steps p.tables e below (s₁.setTop (entryFrame m #[.ref x, .ref y] 3)) (s₁.setTop (mkF m 8 #[.val (.ref x), .val (.ref y), .unset] [.ref y])) := c1.trans (by
      refine acmpYes X0.here hexec rfl (pc0 := 2) rfl (hb hbytes d2) rfl rfl rfl (by simp [acmp, hxy]) (by decide) rfl ?_
      refine XS.aloadN X0.here hexec rfl (hb hbytes d7) rfl rfl ?_
      exact Steps.refl _)
    obtain ⟨T3, X3, q3, st3⟩ := cinst X0 hexec hown (wk W (.classLink "java/lang/String" 10 "java/lang/String")) (hy.mv X0.warmed.alike hh0).1 (g := (mkF m 8 #[.val (.ref x), .val (.ref y), .unset] [.ref y])) rfl (rest := []) rfl (hb hbytes d8)
    have hh3 := q3.trans hh0
    have c4 : Steps p.tables e below (s₁.setTop (entryFrame m #[.ref x, .ref y] 3)) (T3.setTop (mkF m 15 #[.val (.ref x), .val (.ref y), .unset] [.ref y])) := (c2.trans (st3 _ (Steps.refl _))).trans (by
      refine XS.ifNo X3.here hexec rfl (hb hbytes d11) rfl (i0_eq_f (by decide)) ?_
      refine XS.aloadN X3.here hexec rfl (hb hbytes d14) rfl rfl ?_
      exact Steps.refl _)
    obtain ⟨T5, X5, q5, st5⟩ := cself X3 hexec hown (wk W (.classLink "java/lang/String" 10 "java/lang/String")) (hy.mv X3.warmed.alike hh3).1 (g := (mkF m 15 #[.val (.ref x), .val (.ref y), .unset] [.ref y])) rfl (rest := []) rfl (hb hbytes d15)
    have hh5 := q5.trans hh3
    have c6 : Steps p.tables e below (s₁.setTop (entryFrame m #[.ref x, .ref y] 3)) (T5.setTop (mkF m 19 #[.val (.ref x), .val (.ref y), .val (.ref y)] [])) := (c4.trans (st5 _ (Steps.refl _))).trans (by
      refine XS.astoreN X5.here hexec rfl (hb hbytes d18) rfl rfl rfl ?_
      exact Steps.refl _)
    obtain ⟨T7, X7, q7, st7⟩ := X5.sget hexec hown (wk W (.fieldLink "java/lang/String" 38 "java/lang/String" "COMPACT_STRINGS" "Z")) s1 (fun _ _ h => by rw [hh5]; exact h) (g := (mkF m 19 #[.val (.ref x), .val (.ref y), .val (.ref y)] [])) rfl (hb hbytes d19)
    have hh7 := q7.trans hh5
    have c8 : Steps p.tables e below (s₁.setTop (entryFrame m #[.ref x, .ref y] 3)) (T7.setTop (mkF m 26 #[.val (.ref x), .val (.ref y), .val (.ref y)] [.ref x])) := (c6.trans (st7 _ (Steps.refl _))).trans (by
      refine XS.ifNo X7.here hexec rfl (hb hbytes d22) rfl (i0_eq_f hz) ?_
      refine XS.aloadN X7.here hexec rfl (hb hbytes d25) rfl rfl ?_
      exact Steps.refl _)
    obtain ⟨T9, X9, q9, st9⟩ := X7.hget hexec hown (wk W (.fieldLink "java/lang/String" 15 "java/lang/String" "coder" "B")) (hx.mv X7.warmed.alike hh7).2.2.1 (g := (mkF m 26 #[.val (.ref x), .val (.ref y), .val (.ref y)] [.ref x])) rfl (rest := []) rfl (hb hbytes d26)
    have hh9 := q9.trans hh7
    have c10 : Steps p.tables e below (s₁.setTop (entryFrame m #[.ref x, .ref y] 3)) (T9.setTop (mkF m 30 #[.val (.ref x), .val (.ref y), .val (.ref y)] [.ref y, .int cd])) := (c8.trans (st9 _ (Steps.refl _))).trans (by
      refine XS.aloadN X9.here hexec rfl (hb hbytes d29) rfl rfl ?_
      exact Steps.refl _)
    obtain ⟨T11, X11, q11, st11⟩ := X9.hget hexec hown (wk W (.fieldLink "java/lang/String" 15 "java/lang/String" "coder" "B")) (hy.mv X9.warmed.alike hh9).2.2.1 (g := (mkF m 30 #[.val (.ref x), .val (.ref y), .val (.ref y)] [.ref y, .int cd])) rfl (rest := [.int cd]) rfl (hb hbytes d30)
    have hh11 := q11.trans hh9
    have c12 : Steps p.tables e below (s₁.setTop (entryFrame m #[.ref x, .ref y] 3)) (T11.setTop (mkF m 33 #[.val (.ref x), .val (.ref y), .val (.ref y)] [.int cd', .int cd])) := c10.trans (st11 _ (Steps.refl _))
    by_cases hcd : cd = cd'
    · subst hcd
      have c13 : Steps p.tables e below (s₁.setTop (entryFrame m #[.ref x, .ref y] 3)) (T11.setTop (mkF m 37 #[.val (.ref x), .val (.ref y), .val (.ref y)] [.ref x])) := c12.trans (by
        refine XS.icmpNo X11.here hexec rfl (hb hbytes d33) rfl (ii_ne_f rfl) ?_
        refine XS.aloadN X11.here hexec rfl (hb hbytes d36) rfl rfl ?_
        exact Steps.refl _)
      obtain ⟨T14, X14, q14, st14⟩ := X11.hget hexec hown (wk W (.fieldLink "java/lang/String" 9 "java/lang/String" "value" "[B")) (hx.mv X11.warmed.alike hh11).2.1 (g := (mkF m 37 #[.val (.ref x), .val (.ref y), .val (.ref y)] [.ref x])) rfl (rest := []) rfl (hb hbytes d37)
      have hh14 := q14.trans hh11
      have c15 : Steps p.tables e below (s₁.setTop (entryFrame m #[.ref x, .ref y] 3)) (T14.setTop (mkF m 41 #[.val (.ref x), .val (.ref y), .val (.ref y)] [.ref y, .ref t])) := (c13.trans (st14 _ (Steps.refl _))).trans (by
        refine XS.aloadN X14.here hexec rfl (hb hbytes d40) rfl rfl ?_
        exact Steps.refl _)
      obtain ⟨T16, X16, q16, st16⟩ := X14.hget hexec hown (wk W (.fieldLink "java/lang/String" 9 "java/lang/String" "value" "[B")) (hy.mv X14.warmed.alike hh14).2.1 (g := (mkF m 41 #[.val (.ref x), .val (.ref y), .val (.ref y)] [.ref y, .ref t])) rfl (rest := [.ref t]) rfl (hb hbytes d41)
      have hh16 := q16.trans hh14
      have c17 : Steps p.tables e below (s₁.setTop (entryFrame m #[.ref x, .ref y] 3)) (T16.setTop (mkF m 44 #[.val (.ref x), .val (.ref y), .val (.ref y)] [.ref t', .ref t])) := c15.trans (st16 _ (Steps.refl _))
      obtain ⟨v18, T18, X18, E18, g18⟩ := X16.callS hexec (LEq.law l t V t' V') hown (wks W (staticW "java/lang/String" 541 LEq.yN)) (wk W LEq.tab) (W := 0) (Nat.le_of_ble_eq_true rfl) (Nat.le_of_ble_eq_true rfl) (Nat.le_refl _) (Nat.le_refl _) (g := (mkF m 44 #[.val (.ref x), .val (.ref y), .val (.ref y)] [.ref t', .ref t])) rfl (by rw [hml]; rfl) c17 (argsL := [.ref t, .ref t']) (rest := []) rfl rfl (by show 2 * 0 + 0 ≤ _; decide) (hb hbytes d44) (⟨rfl, hx.2.2.2.1.mv X16.warmed.alike hh16, hx.2.2.2.2.1.ty, hy.2.2.2.1.mv X16.warmed.alike hh16, hy.2.2.2.2.1.ty⟩)
      obtain ⟨v, rfl, q18, hv⟩ := E18
      have iff := Cod.eqv hx.2.2.2.2.1 hy.2.2.2.2.1 hx.2.2.2.2.2 hy.2.2.2.2.2
      rcases hv with ⟨rfl, he⟩ | ⟨rfl, he⟩
      · have c19 : Steps p.tables e below (s₁.setTop (entryFrame m #[.ref x, .ref y] 3)) (T18.setTop (mkF m 55 #[.val (.ref x), .val (.ref y), .val (.ref y)] [.int 1])) := Steps.trans g18 (by
          refine XS.ifNo X18.here hexec rfl (hb hbytes d47) rfl (i0_eq_f (by decide)) ?_
          refine iconstV X18.here hexec rfl 1 (hb hbytes d50) (by decide) ?_
          refine XS.goto X18.here hexec rfl (pc0 := 51) rfl (hb hbytes d51) (by decide) rfl ?_
          exact Steps.refl _)
        exact ⟨T18, some (.int 1), _, _, _, X18, rfl, rfl, rfl, (fun h => by cases h), ⟨1, rfl, q18.trans hh16, Or.inl ⟨rfl, iff.mp he⟩⟩, fun fs hl => c19.trans (X18.ireturnOut hexec hret rfl (Or.inr (Or.inl rfl)) (hb hbytes d55) hl)⟩
      · have c19 : Steps p.tables e below (s₁.setTop (entryFrame m #[.ref x, .ref y] 3)) (T18.setTop (mkF m 55 #[.val (.ref x), .val (.ref y), .val (.ref y)] [.int 0])) := Steps.trans g18 (by
          refine XS.ifYes X18.here hexec rfl (pc0 := 47) rfl (hb hbytes d47) rfl (i0_eq_t rfl) (by decide) rfl ?_
          refine iconstV X18.here hexec rfl 0 (hb hbytes d54) (by decide) ?_
          exact Steps.refl _)
        exact ⟨T18, some (.int 0), _, _, _, X18, rfl, rfl, rfl, (fun h => by cases h), ⟨0, rfl, q18.trans hh16, Or.inr ⟨rfl, fun q => he (iff.mpr q)⟩⟩, fun fs hl => c19.trans (X18.ireturnOut hexec hret rfl (Or.inr (Or.inl rfl)) (hb hbytes d55) hl)⟩
    · have c13 : Steps p.tables e below (s₁.setTop (entryFrame m #[.ref x, .ref y] 3)) (T11.setTop (mkF m 55 #[.val (.ref x), .val (.ref y), .val (.ref y)] [.int 0])) := c12.trans (by
        refine XS.icmpYes X11.here hexec rfl (pc0 := 33) rfl (hb hbytes d33) rfl (ii_ne_t hcd) (by decide) rfl ?_
        refine iconstV X11.here hexec rfl 0 (hb hbytes d54) (by decide) ?_
        exact Steps.refl _)
      exact ⟨T11, some (.int 0), _, _, _, X11, rfl, rfl, rfl, (fun h => by cases h), ⟨0, rfl, hh11, Or.inr ⟨rfl, Cod.dif hx.2.2.2.2.1 hy.2.2.2.2.1 hcd⟩⟩, fun fs hl => c13.trans (X11.ireturnOut hexec hret rfl (Or.inr (Or.inl rfl)) (hb hbytes d55) hl)⟩
theorem pays {l : Launch} {R : Room} {p : Program} {e : Env} {below : List Frame} {s : State} {sargs : Array Value} {len W : Nat} (x t : Addr) (V : Cell) (cd : Int32) (n : Nat) (f : Nat → Int32) (y t' : Addr) (V' : Cell) (cd' : Int32) (k : Nat) (g : Nat → Int32) (z : Int32) (htab : tab.before sargs s = true) (hfr : 2 ≤ R.frames) (hlo : W + 28 ≤ R.locals) :
    Back l R p e below s sargs yN len W (fun A₁ a₁ => A₁.cells + 0 ≤ R.cells ∧ A₁.slots + 0 ≤ R.slots ∧ P x t V cd n f y t' V' cd' k g z a₁ A₁.U) (fun A₁ _ v₁ B₁ => Says01 (SameT n f k g) v₁ A₁.U B₁.U ∧ B₁.locs = A₁.locs ++ [] ∧ B₁.cells = A₁.cells + 0 ∧ B₁.slots = A₁.slots + 0) :=
  (law l x t V cd n f y t' V' cd' k g z).pays htab hfr (by omega)
end SEq
end StrChars
namespace StrChars.Road
open Jvm Sem ClassFile Op Lib Jvm.Stand Jvm.Free Jvm.Free.XT
open Jvm.Lib.Cold (StaticIs)
/-- the words of String.equals(Object) -/
abbrev wordsEq : List Jvm.Cond := [.code SEq.yN SEq.yB 3 (some .boolean), .initialized ST, .classLink ST 10 ST, .fieldLink ST 38 ST "COMPACT_STRINGS" "Z", .fieldLink ST 15 ST "coder" "B", .fieldLink ST 9 ST "value" "[B", .methodLink ST 541 LEq.yN, .static LEq.yN, .code LEq.yN LEq.yB 3 (some .boolean), .initialized "java/lang/StringLatin1"]
theorem tabEq_of {a : Array Value} {s : State} (h : ∀ w ∈ wordsEq, w.before a s = true) : SEq.tab.before a s = true := by
  have hl : LEq.tab.before a s = true := unparts (wk h (.code LEq.yN LEq.yB 3 (some .boolean))) (wks h (.initialized LEq.yN.cls :: LEq.site))
  have q := consq hl h
  exact unparts (wk q (.code SEq.yN SEq.yB 3 (some .boolean))) (wks q (.initialized SEq.yN.cls :: SEq.site))
theorem movedEq {Z s : State} {a0 args : Array Value} (hZ : Z.Warmed39 s.vm) (hw : ∀ d ∈ wordsEq, d.before a0 Z = true) : ∀ d ∈ wordsEq, d.before args s = true := fun d hd => by
  have t : ∀ d ∈ wordsEq, (d.onTables && d.keepsFace) = true := by decide +kernel
  exact RoadKit.mv hZ (hw d hd) (t d hd)
/-- the road's facts of a String, as the laws ask it -/
theorem txt_of {Z U : State} {a0 : Array Value} {kI : Nat} (wi : (Jvm.Cond.instantiable ST kI).before a0 Z = true) (al : Z.vm.Alike U.vm) {x t : Addr} {kb : ClassId} {cs : List Int32} {cd N2 : Int32} {vs : List Value} (E : RoadKit.Exa Z U.heap x ST) (V : RoadKit.Fld Z U.heap x ST "value" "[B" (.ref t)) (C : RoadKit.Fld Z U.heap x ST "coder" "B" (.int cd)) (K : RoadKit.Arv Z U.heap t kb .byte N2 vs (.int 0)) (hc : CodA cs cd N2 vs) (hb : ∀ c ∈ cs, ¬ c < 0 ∧ ¬ (65535 : Int32) < c) (l2 : cs.length ≤ 4000) :
    ∃ A, Txt x t A cd cs.length (fun j => cs.getD j 0) U := by
  obtain ⟨A, K1, K2, K3, K4, K5, K6⟩ := K
  have hcod := hc.cod (by omega) K3 K5
  obtain ⟨D, fV, fC, hB, F1, F2, g1, g2, -, -⟩ := strObj wi al E V C
  exact ⟨A, ⟨_, hB.2.2.1, D, hB.1, rfl, by cases q : D.vm <;> first | rfl | exact absurd q (hB.2.1.2 _)⟩, Has.of hB F1 g1, Has.of hB F2 g2, ⟨K1.1, State.isArrayOf_alike al K1.2.1, K1.2.2, by rcases hcod with ⟨-, q, -⟩ | ⟨-, q, -⟩ <;> omega⟩, hcod, fun j hj => by
    have e : cs.getD j 0 = cs[j] := by simp [List.getD_eq_getElem?_getD, hj]
    show ¬ cs.getD j 0 < 0 ∧ ¬ 65535 < cs.getD j 0
    rw [e]; exact hb _ (List.getElem_mem _)⟩
theorem same_list (cs ds : List Int32) : SameT cs.length (fun j => cs.getD j 0) ds.length (fun j => ds.getD j 0) ↔ cs = ds := by
  constructor
  · rintro ⟨e, q⟩
    refine List.ext_getElem e fun j h1 h2 => ?_
    have := q j h1
    simpa [List.getD_eq_getElem?_getD, h1, h2] using this
  · rintro rfl
    exact ⟨rfl, fun _ _ => rfl⟩
/-- **equals(Object) OF TWO SUCH STRINGS**: 1 just where the chars are the same -/
theorem eqW {p : Program} {l : Launch} {e : Env} {R : Room} {s : State} {args : Array Value} {below : List Frame} {len W : Nat} {Z : State} {a0 : Array Value} {h : Heap} (hZ : Z.Warmed39 s.vm) (hw : ∀ d ∈ wordsEq, d.before a0 Z = true) {kI : Nat} (wi : (Jvm.Cond.instantiable ST kI).before a0 Z = true)
    {x t : Addr} {kb : ClassId} {cs : List Int32} {cd N2 : Int32} {vs : List Value} (E : RoadKit.Exa Z h x ST) (V : RoadKit.Fld Z h x ST "value" "[B" (.ref t)) (C : RoadKit.Fld Z h x ST "coder" "B" (.int cd)) (K : RoadKit.Arv Z h t kb .byte N2 vs (.int 0)) (hc : CodA cs cd N2 vs) (hb : ∀ c ∈ cs, ¬ c < 0 ∧ ¬ (65535 : Int32) < c) (l2 : cs.length ≤ 4000)
    {y t' : Addr} {kb' : ClassId} {ds : List Int32} {cd' N2' : Int32} {vs' : List Value} (E' : RoadKit.Exa Z h y ST) (V' : RoadKit.Fld Z h y ST "value" "[B" (.ref t')) (C' : RoadKit.Fld Z h y ST "coder" "B" (.int cd')) (K' : RoadKit.Arv Z h t' kb' .byte N2' vs' (.int 0)) (hc' : CodA ds cd' N2' vs') (hb' : ∀ c ∈ ds, ¬ c < 0 ∧ ¬ (65535 : Int32) < c) (l2' : ds.length ≤ 4000)
    {z : Int32} (S : RoadKit.Sta Z h ST "COMPACT_STRINGS" "Z" (.int z)) (hz : ¬ z = 0) (hfr : 2 ≤ R.frames) (hlo : W + 28 ≤ R.locals) :
    Back l R p e below s args (⟨"java/lang/String", "equals", "(Ljava/lang/Object;)Z"⟩ : MethodName) len W (fun P a => a = #[.ref x, .ref y] ∧ P.U.heap = h ∧ P.cells + 0 ≤ R.cells ∧ P.slots + 0 ≤ R.slots)
      (fun P _ v B => ∃ L, (((v = some (.int 1) ∧ cs = ds) ∨ (v = some (.int 0) ∧ ¬ cs = ds)) ∧ L = [] ∧ B.U.heap = h) ∧ B.locs = P.locs ++ L ∧ B.cells = P.cells + 0 ∧ B.slots = P.slots + 0) := by
  intro m meth c P g ig mk a X hg hsize hdg hW hn hp'
  obtain ⟨rfl, rfl, r1, r2⟩ := hp'
  have al : Z.vm.Alike P.U.vm := hZ.alike.trans X.warmed.alike
  obtain ⟨A, hx⟩ := txt_of wi al E V C K hc hb l2
  obtain ⟨A', hy⟩ := txt_of wi al E' V' C' K' hc' hb' l2'
  obtain ⟨v, B, X', ⟨⟨w, hv, hh, hq⟩, hl, hk, hs⟩, st⟩ := SEq.pays x t A cd cs.length (fun j => cs.getD j 0) y t' A' cd' ds.length (fun j => ds.getD j 0) z (tabEq_of (movedEq hZ hw)) hfr hlo m meth c P g ig mk _ X hg hsize hdg hW hn ⟨r1, r2, rfl, hx, hy, sta_is al S, hz⟩
  refine ⟨v, B, X', ⟨[], ⟨?_, rfl, hh⟩, hl, hk, hs⟩, st⟩
  rcases hq with ⟨rfl, q⟩ | ⟨rfl, q⟩
  · exact Or.inl ⟨hv, (same_list cs ds).mp q⟩
  · exact Or.inr ⟨hv, fun e => q ((same_list cs ds).mpr e)⟩
end StrChars.Road
namespace StrChars.Road
open Jvm Sem ClassFile Op Lib Jvm.Stand Jvm.Free Jvm.Free.XT
open Jvm.Lib.Cold (StaticIs)
/-- what backV says of its String, as the contracts of this text ask it: cs's low bytes, coder 0 -/
theorem codOf {cs : List Int32} {n : Nat} (hn : cs.length = n) (hb : ∀ c ∈ cs, ¬ 255 < c) : CodA cs 0 (Int32.ofNat n) ((cs.map lo8).map Value.int) := Or.inl ⟨rfl, by rw [hn], by simp [List.map_map, Function.comp_def], hb⟩
end StrChars.Road
end Jvm.Pilot.@@N@@
namespace Jvm.RoadKit
open Sem ClassFile Op Lib Jvm.Stand Jvm.Free Jvm.LawKit
section New
variable {p : Program} {l : Launch} {e : Env} {R : Room} {s : State} {m : MethodId} {args : Array Value} {below : List Frame} {meth : Method} {c : Code} {T : State} {locs : List Loc} {cells slots : Nat}
theorem retI (X : Stand p l e R s m args below meth c T locs cells slots) (hx : p.tables.exec = Jvm.exec) {pc : Nat} {Ls : Array Slot} {z : Int32} {rest : List Value} (hret : meth.sig.returnType = some .int) (hd : decode c.code pc = .ok (.ireturn, 1)) {fs : List Frame}
    (hl : ∀ (f : JFrame) (acts : List Action), f.method = m → f.locked = none → f.entered = [] → (doReturn e (T.setTop f) acts (some (.int z))).1 = T.setFrames fs) : Steps p.tables e below (T.setTop (mkF m pc Ls (.int z :: rest))) (T.setFrames fs) := by
  have hm' : T.vm.method? m = some meth := X.method'
  have hn : narrow .int (.int z) = .int z := rfl
  show Steps p.tables e below (T.setTop { method := m, pc := pc, locals := Ls, stack := _ :: rest, locked := none }) _
  jvm_step X.here [X.here.top, hx, hd, hm', hret, hn]
  first | (intro acts; rw [hl _ acts rfl rfl rfl]) | rw [hl _ _ rfl rfl rfl]
  exact Steps.refl _
end New
end Jvm.RoadKit
namespace Jvm.Pilot.@@N@@
open Jvm Jvm.ClassFile Sem Op Lib Jvm.Free Jvm.Stand Jvm.LawKit Jvm.RoadKit Bundle Jvm.Pilot.@@N@@.Jvm.D
/-- a truth value as the machine holds it -/
def bi (P : Prop) [Decidable P] : Int32 := if P then 1 else 0
theorem bi_t {P : Prop} [Decidable P] (h : P) : bi P = 1 := if_pos h
theorem bi_f {P : Prop} [Decidable P] (h : ¬ P) : bi P = 0 := if_neg h
theorem bi_n {P : Prop} [Decidable P] (h : P) : ¬ (bi P = 0) := by rw [bi_t h]; decide
theorem bi_nar {P : Prop} [Decidable P] : nar .boolean (bi P) = bi P := by
  by_cases h : P
  · rw [bi_t h]; rfl
  · rw [bi_f h]; rfl
theorem bi_c {P Q : Prop} [Decidable P] [Decidable Q] (h : P ↔ Q) : bi P = bi Q := by
  by_cases k : P
  · rw [bi_t k, bi_t (h.mp k)]
  · rw [bi_f k, bi_f fun x => k (h.mpr x)]
theorem own_ext {h h' : Heap} (K : Keep h h' []) : Ext h h' := ⟨K.1, fun a c r => K.2.1 a c r nin0⟩
theorem own_staK {Z : State} {h h' : Heap} {C n d : String} {v : Value} {ws : List Addr} (F : Sta Z h C n d v) (K : Keep h h' ws) (r : ∀ x ∈ ws, ∃ D, Exa Z h x D) : Sta Z h' C n d v := by
  obtain ⟨cf, i, k, f, st, cell, h1, h2, h3, h4, h5, h6, h7⟩ := F
  refine ⟨cf, i, k, f, st, cell, h1, h2, h3, h4, K.2.1 _ _ h5 (fun u => ?_), h6, h7⟩
  obtain ⟨D, c2, k2, g1, g2, g3, g4, g5⟩ := r st u
  cases h5.symm.trans g1
  rw [h6] at g4; cases g4
theorem own_eqI {args : Array Value} {s : State} {t : Term} {n : Int32} (h : (Jvm.Cond.eq t (.int n)).value args s none s [] = some true) : t.eval args s none [] s = some (.int n) := by
  obtain ⟨x, y, h1, h2, k1, k2⟩ := cmp_v (Or.inl h)
  cases (Term.int_eval n).symm.trans h2
  obtain ⟨z, rfl⟩ := k2
  have u := gotT (show (Jvm.Cond.eq t (.int n)).value args s none s [] = some (decide (z = n)) from by simp [Cond.value, h1, Term.eval]) h
  rw [h1, u]
theorem own_eqL {args : Array Value} {s : State} {t : Term} {n : Int64} (h : (Jvm.Cond.eq t (.long n)).value args s none s [] = some true) : t.eval args s none [] s = some (.long n) := by
  obtain ⟨x, y, h1, h2, k1, k2⟩ := cmp_v (Or.inl h)
  cases (long_at n).symm.trans h2
  obtain ⟨z, rfl⟩ := k2
  have u := gotT (eq_L h1 (long_at n)) h
  rw [h1, u]
theorem own_c255 (x : Int32) : ¬ (nar .char ((x &&& (255 : Int32)).toUInt32.toUInt16.toUInt32.toInt32)) < 0 ∧ ¬ (255 : Int32) < (nar .char ((x &&& (255 : Int32)).toUInt32.toUInt16.toUInt32.toInt32)) := by
  have t : ∀ k : Fin 256, ¬ nar .char ((Int32.ofNat k.val).toUInt32.toUInt16.toUInt32.toInt32) < 0 ∧ ¬ (255 : Int32) < nar .char ((Int32.ofNat k.val).toUInt32.toUInt16.toUInt32.toInt32) := by decide +kernel
  have h : (x &&& 255).toBitVec.toNat < 256 := by
    simp only [Int32.toBitVec_and, BitVec.toNat_and]
    exact Nat.lt_succ_of_le Nat.and_le_right
  have e : (x &&& 255) = Int32.ofNat (x &&& 255).toBitVec.toNat := by
    apply Int32.toBitVec_inj.mp
    show _ = BitVec.ofNat 32 _
    rw [BitVec.ofNat_toNat]; simp
  rw [e]
  exact t ⟨_, h⟩
theorem own_up (cs : List Int32) (h : ∀ c ∈ cs, ¬ c < 0 ∧ ¬ (255 : Int32) < c) : ∀ c ∈ cs, ¬ c < 0 ∧ ¬ (65535 : Int32) < c := fun c hc => ⟨(h c hc).1, fun k => (h c hc).2 (by rw [Int32.lt_iff_toInt_lt] at k ⊢; have e1 : (65535 : Int32).toInt = 65535 := rfl; have e2 : (255 : Int32).toInt = 255 := rfl; omega)⟩
theorem own_narc (c : Int32) (h : ¬ c < 0 ∧ ¬ (255 : Int32) < c) : nar .char c = c := by
  obtain ⟨h1, h2⟩ := h
  rw [Int32.lt_iff_toInt_lt] at h1 h2
  have e0 : (0 : Int32).toInt = 0 := rfl
  have e2 : (255 : Int32).toInt = 255 := rfl
  have h3 := c_i2c c
  apply Int32.toInt_inj.mp
  show c.toUInt32.toUInt16.toUInt32.toInt32.toInt = c.toInt
  omega
theorem own_words : ∀ d ∈ StrChars.Road.words, d ∈ tables_1 := by decide +kernel
theorem own_extT {a b c : Heap} (h1 : Ext a b) (h2 : Ext b c) : Ext a c := ⟨Nat.le_trans h1.1 h2.1, fun x y k => h2.2 x y (h1.2 x y k)⟩
theorem own_IBw {Z s : State} {vm0 vm1 : Vm} {Ts : List String} (I : IB Z vm0 Ts) (h : (s.setVm vm0).WarmedH vm1) : IB Z vm1 Ts := by
  obtain ⟨more, e, m⟩ := I
  exact ⟨more, h.interned_eq.trans e, m⟩
theorem backOfI {p : Program} {l : Launch} {e : Env} {R : Room} {s : State} {args : Array Value} {below : List Frame} {Z : State} {a0 : Array Value} {h : Heap} {Ts : List String} {y : MethodName} {bytes : ByteArray} {maxL : Nat} {ret : Option FieldType} {rm : Room} {len W : Nat} {as' : Array Value} {Q : Option Value → Heap → List Loc → Prop}
    (hM : MetFree l y (head1 [Jvm.Cond.code y bytes maxL ret] rm) (fun a U => a = as' ∧ Z.Warmed39 U.vm ∧ U.heap = h ∧ IB Z U.vm Ts) (fun _ _ _ _ _ => True) (fun _ U o U' => ∃ v L, o = .returned v ∧ Q v U'.heap L ∧ ReturnedEndW U o U' L rm.cells rm.slots))
    (hZ : Z.Warmed39 s.vm) (wc : (Jvm.Cond.code y bytes maxL ret).before a0 Z = true) (wz : (Jvm.Cond.initialized y.cls).before a0 Z = true) (hf : rm.frames + 1 ≤ R.frames) (hl : W + (maxL + 11) + rm.locals ≤ R.locals) :
    BackS l R p e below s args y len W (fun A a => a = as' ∧ A.U.heap = h ∧ A.cells + rm.cells ≤ R.cells ∧ A.slots + rm.slots ≤ R.slots ∧ IB Z A.U.vm Ts)
      (fun A _ v B => ∃ L, Q v B.U.heap L ∧ B.locs = A.locs ++ L ∧ B.cells = A.cells + rm.cells ∧ B.slots = A.slots + rm.slots) :=
  BackS.of_freeW (bytes := bytes) (maxL := maxL) (ret := ret) (E := fun _ _ o t L k n => k = rm.cells ∧ n = rm.slots ∧ ∃ v, o = .returned v ∧ Q v t.heap L) hM hf hl
    (fun m meth c A a Y hp => have hU : Z.Warmed39 A.U.vm := wtrans hZ Y.warmed
      ⟨by show (Jvm.Cond.and _ .tt).before a A.U = true; rw [Cond.before_and, mv hU wc]; rfl, mv hU wc, mv hU wz, hp.2.2.1, hp.2.2.2.1⟩)
    (fun m meth c A a g mk Y hp => ⟨hp.1, wtrans hZ Y.warmed, hp.2.1, hp.2.2.2.2⟩) (fun _ _ _ _ _ _ _ _ _ => trivial)
    (fun _ _ _ _ ⟨v, L, h1, h2, h3⟩ => ⟨L, _, _, h3, rfl, rfl, v, h1, h2⟩)
    (fun m meth c A a g mk v t L k n Y hp _ _ ⟨e1, e2, v', e3, e4⟩ => by cases e3; subst e1 e2; exact ⟨L, e4, rfl, rfl, rfl⟩)
theorem own_mod5 (x : Int32) : ((x &&& (7 : Int32)) % (5 : Int32)) = (0 : Int32) ∨ ((x &&& (7 : Int32)) % (5 : Int32)) = (1 : Int32) ∨ ((x &&& (7 : Int32)) % (5 : Int32)) = (2 : Int32) ∨ ((x &&& (7 : Int32)) % (5 : Int32)) = (3 : Int32) ∨ ((x &&& (7 : Int32)) % (5 : Int32)) = (4 : Int32) := by
  have h0 := (c_and x 7 (by decide)).1
  have h1 := (c_irem (x &&& 7) 5 5 rfl).1 h0
  have e0 : (0 : Int32).toInt = 0 := rfl
  have e1 : (1 : Int32).toInt = 1 := rfl
  have e2 : (2 : Int32).toInt = 2 := rfl
  have e3 : (3 : Int32).toInt = 3 := rfl
  have e4 : (4 : Int32).toInt = 4 := rfl
  simp only [← Int32.toInt_inj, h1, e0, e1, e2, e3, e4]
  omega
theorem d1_0 : decode method_3_code 0 = .ok (.iload_n 0, 1) := by decide +kernel
theorem d1_1 : decode method_3_code 1 = .ok (.sipush 255, 3) := by decide +kernel
theorem d1_4 : decode method_3_code 4 = .ok (.iand, 1) := by decide +kernel
theorem d1_5 : decode method_3_code 5 = .ok (.istore_n 1, 1) := by decide +kernel
theorem d1_6 : decode method_3_code 6 = .ok (.iload_n 0, 1) := by decide +kernel
theorem d1_7 : decode method_3_code 7 = .ok (.bipush 8, 2) := by decide +kernel
theorem d1_9 : decode method_3_code 9 = .ok (.iushr, 1) := by decide +kernel
theorem d1_10 : decode method_3_code 10 = .ok (.iconst 1, 1) := by decide +kernel
theorem d1_11 : decode method_3_code 11 = .ok (.iand, 1) := by decide +kernel
theorem d1_12 : decode method_3_code 12 = .ok (.ifCond .ne 6, 3) := by decide +kernel
theorem d1_15 : decode method_3_code 15 = .ok (.iload_n 1, 1) := by decide +kernel
theorem d1_16 : decode method_3_code 16 = .ok (.i2c, 1) := by decide +kernel
theorem d1_17 : decode method_3_code 17 = .ok (.ireturn, 1) := by decide +kernel
theorem d1_18 : decode method_3_code 18 = .ok (.iload_n 1, 1) := by decide +kernel
theorem d1_19 : decode method_3_code 19 = .ok (.bipush 6, 2) := by decide +kernel
theorem d1_21 : decode method_3_code 21 = .ok (.irem, 1) := by decide +kernel
theorem d1_22 : decode method_3_code 22 = .ok (.istore_n 2, 1) := by decide +kernel
theorem d1_23 : decode method_3_code 23 = .ok (.iload_n 2, 1) := by decide +kernel
theorem d1_24 : decode method_3_code 24 = .ok (.ifCond .ne 6, 3) := by decide +kernel
theorem d1_27 : decode method_3_code 27 = .ok (.bipush 71, 2) := by decide +kernel
theorem d1_29 : decode method_3_code 29 = .ok (.ireturn, 1) := by decide +kernel
theorem d1_30 : decode method_3_code 30 = .ok (.iload_n 2, 1) := by decide +kernel
theorem d1_31 : decode method_3_code 31 = .ok (.iconst 1, 1) := by decide +kernel
theorem d1_32 : decode method_3_code 32 = .ok (.if_icmp .ne 6, 3) := by decide +kernel
theorem d1_35 : decode method_3_code 35 = .ok (.bipush 69, 2) := by decide +kernel
theorem d1_37 : decode method_3_code 37 = .ok (.ireturn, 1) := by decide +kernel
theorem d1_38 : decode method_3_code 38 = .ok (.iload_n 2, 1) := by decide +kernel
theorem d1_39 : decode method_3_code 39 = .ok (.iconst 2, 1) := by decide +kernel
theorem d1_40 : decode method_3_code 40 = .ok (.if_icmp .ne 6, 3) := by decide +kernel
theorem d1_43 : decode method_3_code 43 = .ok (.bipush 84, 2) := by decide +kernel
theorem d1_45 : decode method_3_code 45 = .ok (.ireturn, 1) := by decide +kernel
theorem d1_46 : decode method_3_code 46 = .ok (.iload_n 2, 1) := by decide +kernel
theorem d1_47 : decode method_3_code 47 = .ok (.iconst 3, 1) := by decide +kernel
theorem d1_48 : decode method_3_code 48 = .ok (.if_icmp .ne 6, 3) := by decide +kernel
theorem d1_51 : decode method_3_code 51 = .ok (.bipush 72, 2) := by decide +kernel
theorem d1_53 : decode method_3_code 53 = .ok (.ireturn, 1) := by decide +kernel
theorem d1_54 : decode method_3_code 54 = .ok (.iload_n 2, 1) := by decide +kernel
theorem d1_55 : decode method_3_code 55 = .ok (.iconst 4, 1) := by decide +kernel
theorem d1_56 : decode method_3_code 56 = .ok (.if_icmp .ne 6, 3) := by decide +kernel
theorem d1_59 : decode method_3_code 59 = .ok (.bipush 65, 2) := by decide +kernel
theorem d1_61 : decode method_3_code 61 = .ok (.ireturn, 1) := by decide +kernel
theorem d1_62 : decode method_3_code 62 = .ok (.bipush 68, 2) := by decide +kernel
theorem d1_64 : decode method_3_code 64 = .ok (.ireturn, 1) := by decide +kernel
theorem pn_1 : plainName "com/example/task_relay/taskrelay/ScopeAllowsPinLaw" = true := by first | (simp [plainName, overriddenIn]; done) | decide +kernel
theorem ef_rmp (m : MethodId) (p0 : Int32) : entryFrame m #[(.int p0)] 3 = mkF m 0 #[.val (.int p0), .unset, .unset] [] := by first | (simp [entryFrame, mkF, argsToLocals, Value.category]; done) | rfl
def Qrmp (Z : State) (p0 : Int32) (h0 : Heap) (n0 : Nat) (v : Option Value) (h : Heap) (L : List Loc) : Prop := ∃ c : Int32, v = some (.int c) ∧ Fr n0 L ∧ h = h0 ∧ (¬ (c < 0) ∧ ¬ ((255 : Int32) < c)) ∧ (nar .char c = c)
set_option maxRecDepth 65536 in
set_option maxHeartbeats 40000000 in
theorem rmp (l : Launch) (Z : State) (a0 : Array Value) (hw : ∀ d ∈ tables_1, d.before a0 Z = true) (ws : List Jvm.Cond) (p0 : Int32) (h0 : Heap) (n0 : Nat) (Z0 : n0 ≤ h0.size) :
    MetFree l (⟨"com/example/task_relay/taskrelay/ScopeAllowsPinLaw", "pick", "(I)C"⟩ : MethodName) (head1 (Jvm.Cond.code (⟨"com/example/task_relay/taskrelay/ScopeAllowsPinLaw", "pick", "(I)C"⟩ : MethodName) method_3_code 3 (some .char) :: ws) ({ frames := 0, cells := 0, slots := 0, locals := 0 } : Room)) (fun a U => a = #[(.int p0)] ∧ Z.Warmed39 U.vm ∧ U.heap = h0) (fun _ _ _ _ _ => True) (fun _ U o U' => ∃ v L, o = .returned v ∧ Qrmp Z p0 h0 n0 v U'.heap L ∧ FrameEnd U o U' L ({ frames := 0, cells := 0, slots := 0, locals := 0 } : Room).cells ({ frames := 0, cells := 0, slots := 0, locals := 0 } : Room).slots) := by
  refine MetFree.of_bodySF (plainFor_of_name pn_1) hisR ?_
  intro p e s m args below meth c s₁ Bd hml0 hP hK
  obtain ⟨rfl, hZ, hh⟩ := hP
  have hx := Bd.exec
  have hby := Bd.bytes
  have hml : c.maxLocals = 3 := hml0
  have hown : s.vm.findClass "com/example/task_relay/taskrelay/ScopeAllowsPinLaw" = some m.cls := findClass_of_methodNamed Bd.named
  have hnm := (name_of_methodNamed Bd.named Bd.method).1
  have X0 : Stand p l e ({ frames := 0, cells := 0, slots := 0, locals := 0 } : Room) s m #[(.int p0)] below meth c s₁ [] 0 0 := Stand.of_body Bd
  have e0 : s₁.heap = h0 := by rw [← hh, Bd.state]; rfl
  have N0 := Fr.nil n0
  have pre0 : ∀ t, Steps p.tables e below (s₁.setTop (mkF m 0 #[.val (.int p0), .unset, .unset] [])) t → Steps p.tables e below (s₁.setTop (entryFrame m #[(.int p0)] 3)) t := fun t k => castTop (ef_rmp m p0) k
  have KC0 : Keep h0 h0 [] := Keep.refl _ _
  have pre1 : ∀ t, Steps p.tables e below (s₁.setTop (mkF m 12 #[.val (.int p0), .val (.int (p0 &&& (255 : Int32))), .unset] [(.int (((p0.toUInt32 >>> ((8 : Int32) &&& 31).toUInt32).toInt32) &&& (1 : Int32)))])) t → Steps p.tables e below (s₁.setTop (entryFrame m #[(.int p0)] 3)) t := fun t k => by
    refine pre0 _ ?_
    show Steps p.tables e below (s₁.setTop (mkF m 0 #[.val (.int p0), .unset, .unset] [])) _
    refine XS.iloadN X0.here hx rfl (hb hby d1_0) rfl ?_
    show Steps p.tables e below (s₁.setTop (mkF m 1 #[.val (.int p0), .unset, .unset] [(.int p0)])) _
    refine XS.sipush X0.here hx rfl (hb hby d1_1) ?_
    show Steps p.tables e below (s₁.setTop (mkF m 4 #[.val (.int p0), .unset, .unset] [(.int (255 : Int32)), (.int p0)])) _
    refine XS.iand X0.here hx rfl (hb hby d1_4) rfl ?_
    show Steps p.tables e below (s₁.setTop (mkF m 5 #[.val (.int p0), .unset, .unset] [(.int (p0 &&& (255 : Int32)))])) _
    refine XS.istoreN X0.here hx rfl (hb hby d1_5) rfl (l' := #[.val (.int p0), .val (.int (p0 &&& (255 : Int32))), .unset]) rfl ?_
    show Steps p.tables e below (s₁.setTop (mkF m 6 #[.val (.int p0), .val (.int (p0 &&& (255 : Int32))), .unset] [])) _
    refine XS.iloadN X0.here hx rfl (hb hby d1_6) rfl ?_
    show Steps p.tables e below (s₁.setTop (mkF m 7 #[.val (.int p0), .val (.int (p0 &&& (255 : Int32))), .unset] [(.int p0)])) _
    refine XS.bipush X0.here hx rfl (hb hby d1_7) ?_
    show Steps p.tables e below (s₁.setTop (mkF m 9 #[.val (.int p0), .val (.int (p0 &&& (255 : Int32))), .unset] [(.int (8 : Int32)), (.int p0)])) _
    refine XS.iushr X0.here hx rfl (hb hby d1_9) rfl ?_
    show Steps p.tables e below (s₁.setTop (mkF m 10 #[.val (.int p0), .val (.int (p0 &&& (255 : Int32))), .unset] [(.int ((p0.toUInt32 >>> ((8 : Int32) &&& 31).toUInt32).toInt32))])) _
    refine XS.iconst X0.here hx rfl (hb hby d1_10) ?_
    show Steps p.tables e below (s₁.setTop (mkF m 11 #[.val (.int p0), .val (.int (p0 &&& (255 : Int32))), .unset] [(.int (1 : Int32)), (.int ((p0.toUInt32 >>> ((8 : Int32) &&& 31).toUInt32).toInt32))])) _
    refine XS.iand X0.here hx rfl (hb hby d1_11) rfl ?_
    exact k
  by_cases hc2 : (((p0.toUInt32 >>> ((8 : Int32) &&& 31).toUInt32).toInt32) &&& (1 : Int32)) = (0 : Int32)
  · obtain ⟨fs, hr, hrun, hended, hW, hsame⟩ := X0.leave (v := some (.int (nar .char ((p0 &&& (255 : Int32)).toUInt32.toUInt16.toUInt32.toInt32)))) (fun h => by rw [Bd.returns] at h; cases h)
    refine ⟨_, _, pre1 _ ?_, hrun, hended, _, _, rfl, ?_, ⟨_, rfl⟩, hW, hsame.mono (by decide) (by decide)⟩
    · show Steps p.tables e below (s₁.setTop (mkF m 12 #[.val (.int p0), .val (.int (p0 &&& (255 : Int32))), .unset] [(.int (((p0.toUInt32 >>> ((8 : Int32) &&& 31).toUInt32).toInt32) &&& (1 : Int32)))])) _
      refine XS.ifNo X0.here hx rfl (hb hby d1_12) rfl ((if0 _ _).trans (teq (hc2 : (((p0.toUInt32 >>> ((8 : Int32) &&& 31).toUInt32).toInt32) &&& (1 : Int32)) = (0 : Int32))).2) ?_
      show Steps p.tables e below (s₁.setTop (mkF m 15 #[.val (.int p0), .val (.int (p0 &&& (255 : Int32))), .unset] [])) _
      refine XS.iloadN X0.here hx rfl (hb hby d1_15) rfl ?_
      show Steps p.tables e below (s₁.setTop (mkF m 16 #[.val (.int p0), .val (.int (p0 &&& (255 : Int32))), .unset] [(.int (p0 &&& (255 : Int32)))])) _
      refine XS.i2c X0.here hx rfl (hb hby d1_16) rfl ?_
      show Steps p.tables e below (s₁.setTop (mkF m 17 #[.val (.int p0), .val (.int (p0 &&& (255 : Int32))), .unset] [(.int ((p0 &&& (255 : Int32)).toUInt32.toUInt16.toUInt32.toInt32))])) _
      exact retN X0 hx (t := .char) Bd.returns (by simp) (hb hby d1_17) hr
    · show Qrmp Z p0 h0 n0 _ s₁.heap _
      rw [e0]
      exact ⟨(nar .char ((p0 &&& (255 : Int32)).toUInt32.toUInt16.toUInt32.toInt32)), rfl, N0, rfl, (own_c255 p0), (own_narc _ (own_c255 p0))⟩
  · have pre3 : ∀ t, Steps p.tables e below (s₁.setTop (mkF m 24 #[.val (.int p0), .val (.int (p0 &&& (255 : Int32))), .val (.int ((p0 &&& (255 : Int32)) % (6 : Int32)))] [(.int ((p0 &&& (255 : Int32)) % (6 : Int32)))])) t → Steps p.tables e below (s₁.setTop (entryFrame m #[(.int p0)] 3)) t := fun t k => by
      refine pre1 _ ?_
      show Steps p.tables e below (s₁.setTop (mkF m 12 #[.val (.int p0), .val (.int (p0 &&& (255 : Int32))), .unset] [(.int (((p0.toUInt32 >>> ((8 : Int32) &&& 31).toUInt32).toInt32) &&& (1 : Int32)))])) _
      refine XS.ifYes X0.here hx rfl (pc0 := 12) (pc' := 18) rfl (hb hby d1_12) rfl ((if0 _ _).trans (feq (hc2 : ¬ ((((p0.toUInt32 >>> ((8 : Int32) &&& 31).toUInt32).toInt32) &&& (1 : Int32)) = (0 : Int32)))).2) (by decide) (by decide) ?_
      show Steps p.tables e below (s₁.setTop (mkF m 18 #[.val (.int p0), .val (.int (p0 &&& (255 : Int32))), .unset] [])) _
      refine XS.iloadN X0.here hx rfl (hb hby d1_18) rfl ?_
      show Steps p.tables e below (s₁.setTop (mkF m 19 #[.val (.int p0), .val (.int (p0 &&& (255 : Int32))), .unset] [(.int (p0 &&& (255 : Int32)))])) _
      refine XS.bipush X0.here hx rfl (hb hby d1_19) ?_
      show Steps p.tables e below (s₁.setTop (mkF m 21 #[.val (.int p0), .val (.int (p0 &&& (255 : Int32))), .unset] [(.int (6 : Int32)), (.int (p0 &&& (255 : Int32)))])) _
      refine iremM (g := (mkF m 21 #[.val (.int p0), .val (.int (p0 &&& (255 : Int32))), .unset] [(.int (6 : Int32)), (.int (p0 &&& (255 : Int32)))])) X0 hx rfl (hb hby d1_21) rfl (by decide) ?_
      show Steps p.tables e below (s₁.setTop (mkF m 22 #[.val (.int p0), .val (.int (p0 &&& (255 : Int32))), .unset] [(.int ((p0 &&& (255 : Int32)) % (6 : Int32)))])) _
      refine XS.istoreN X0.here hx rfl (hb hby d1_22) rfl (l' := #[.val (.int p0), .val (.int (p0 &&& (255 : Int32))), .val (.int ((p0 &&& (255 : Int32)) % (6 : Int32)))]) rfl ?_
      show Steps p.tables e below (s₁.setTop (mkF m 23 #[.val (.int p0), .val (.int (p0 &&& (255 : Int32))), .val (.int ((p0 &&& (255 : Int32)) % (6 : Int32)))] [])) _
      refine XS.iloadN X0.here hx rfl (hb hby d1_23) rfl ?_
      exact k
    by_cases hc4 : ((p0 &&& (255 : Int32)) % (6 : Int32)) = (0 : Int32)
    · obtain ⟨fs, hr, hrun, hended, hW, hsame⟩ := X0.leave (v := some (.int (71 : Int32))) (fun h => by rw [Bd.returns] at h; cases h)
      refine ⟨_, _, pre3 _ ?_, hrun, hended, _, _, rfl, ?_, ⟨_, rfl⟩, hW, hsame.mono (by decide) (by decide)⟩
      · show Steps p.tables e below (s₁.setTop (mkF m 24 #[.val (.int p0), .val (.int (p0 &&& (255 : Int32))), .val (.int ((p0 &&& (255 : Int32)) % (6 : Int32)))] [(.int ((p0 &&& (255 : Int32)) % (6 : Int32)))])) _
        refine XS.ifNo X0.here hx rfl (hb hby d1_24) rfl ((if0 _ _).trans (teq (hc4 : ((p0 &&& (255 : Int32)) % (6 : Int32)) = (0 : Int32))).2) ?_
        show Steps p.tables e below (s₁.setTop (mkF m 27 #[.val (.int p0), .val (.int (p0 &&& (255 : Int32))), .val (.int ((p0 &&& (255 : Int32)) % (6 : Int32)))] [])) _
        refine XS.bipush X0.here hx rfl (hb hby d1_27) ?_
        show Steps p.tables e below (s₁.setTop (mkF m 29 #[.val (.int p0), .val (.int (p0 &&& (255 : Int32))), .val (.int ((p0 &&& (255 : Int32)) % (6 : Int32)))] [(.int (71 : Int32))])) _
        exact retN X0 hx (t := .char) Bd.returns (by simp) (hb hby d1_29) hr
      · show Qrmp Z p0 h0 n0 _ s₁.heap _
        rw [e0]
        exact ⟨(71 : Int32), rfl, N0, rfl, (by decide), (by decide)⟩
    · have pre5 : ∀ t, Steps p.tables e below (s₁.setTop (mkF m 32 #[.val (.int p0), .val (.int (p0 &&& (255 : Int32))), .val (.int ((p0 &&& (255 : Int32)) % (6 : Int32)))] [(.int (1 : Int32)), (.int ((p0 &&& (255 : Int32)) % (6 : Int32)))])) t → Steps p.tables e below (s₁.setTop (entryFrame m #[(.int p0)] 3)) t := fun t k => by
        refine pre3 _ ?_
        show Steps p.tables e below (s₁.setTop (mkF m 24 #[.val (.int p0), .val (.int (p0 &&& (255 : Int32))), .val (.int ((p0 &&& (255 : Int32)) % (6 : Int32)))] [(.int ((p0 &&& (255 : Int32)) % (6 : Int32)))])) _
        refine XS.ifYes X0.here hx rfl (pc0 := 24) (pc' := 30) rfl (hb hby d1_24) rfl ((if0 _ _).trans (feq (hc4 : ¬ (((p0 &&& (255 : Int32)) % (6 : Int32)) = (0 : Int32)))).2) (by decide) (by decide) ?_
        show Steps p.tables e below (s₁.setTop (mkF m 30 #[.val (.int p0), .val (.int (p0 &&& (255 : Int32))), .val (.int ((p0 &&& (255 : Int32)) % (6 : Int32)))] [])) _
        refine XS.iloadN X0.here hx rfl (hb hby d1_30) rfl ?_
        show Steps p.tables e below (s₁.setTop (mkF m 31 #[.val (.int p0), .val (.int (p0 &&& (255 : Int32))), .val (.int ((p0 &&& (255 : Int32)) % (6 : Int32)))] [(.int ((p0 &&& (255 : Int32)) % (6 : Int32)))])) _
        refine XS.iconst X0.here hx rfl (hb hby d1_31) ?_
        exact k
      by_cases hc6 : ((p0 &&& (255 : Int32)) % (6 : Int32)) = (1 : Int32)
      · obtain ⟨fs, hr, hrun, hended, hW, hsame⟩ := X0.leave (v := some (.int (69 : Int32))) (fun h => by rw [Bd.returns] at h; cases h)
        refine ⟨_, _, pre5 _ ?_, hrun, hended, _, _, rfl, ?_, ⟨_, rfl⟩, hW, hsame.mono (by decide) (by decide)⟩
        · show Steps p.tables e below (s₁.setTop (mkF m 32 #[.val (.int p0), .val (.int (p0 &&& (255 : Int32))), .val (.int ((p0 &&& (255 : Int32)) % (6 : Int32)))] [(.int (1 : Int32)), (.int ((p0 &&& (255 : Int32)) % (6 : Int32)))])) _
          refine XS.icmpNo X0.here hx rfl (hb hby d1_32) rfl (teq (hc6 : ((p0 &&& (255 : Int32)) % (6 : Int32)) = (1 : Int32))).2 ?_
          show Steps p.tables e below (s₁.setTop (mkF m 35 #[.val (.int p0), .val (.int (p0 &&& (255 : Int32))), .val (.int ((p0 &&& (255 : Int32)) % (6 : Int32)))] [])) _
          refine XS.bipush X0.here hx rfl (hb hby d1_35) ?_
          show Steps p.tables e below (s₁.setTop (mkF m 37 #[.val (.int p0), .val (.int (p0 &&& (255 : Int32))), .val (.int ((p0 &&& (255 : Int32)) % (6 : Int32)))] [(.int (69 : Int32))])) _
          exact retN X0 hx (t := .char) Bd.returns (by simp) (hb hby d1_37) hr
        · show Qrmp Z p0 h0 n0 _ s₁.heap _
          rw [e0]
          exact ⟨(69 : Int32), rfl, N0, rfl, (by decide), (by decide)⟩
      · have pre7 : ∀ t, Steps p.tables e below (s₁.setTop (mkF m 40 #[.val (.int p0), .val (.int (p0 &&& (255 : Int32))), .val (.int ((p0 &&& (255 : Int32)) % (6 : Int32)))] [(.int (2 : Int32)), (.int ((p0 &&& (255 : Int32)) % (6 : Int32)))])) t → Steps p.tables e below (s₁.setTop (entryFrame m #[(.int p0)] 3)) t := fun t k => by
          refine pre5 _ ?_
          show Steps p.tables e below (s₁.setTop (mkF m 32 #[.val (.int p0), .val (.int (p0 &&& (255 : Int32))), .val (.int ((p0 &&& (255 : Int32)) % (6 : Int32)))] [(.int (1 : Int32)), (.int ((p0 &&& (255 : Int32)) % (6 : Int32)))])) _
          refine XS.icmpYes X0.here hx rfl (pc0 := 32) (pc' := 38) rfl (hb hby d1_32) rfl (feq (hc6 : ¬ (((p0 &&& (255 : Int32)) % (6 : Int32)) = (1 : Int32)))).2 (by decide) (by decide) ?_
          show Steps p.tables e below (s₁.setTop (mkF m 38 #[.val (.int p0), .val (.int (p0 &&& (255 : Int32))), .val (.int ((p0 &&& (255 : Int32)) % (6 : Int32)))] [])) _
          refine XS.iloadN X0.here hx rfl (hb hby d1_38) rfl ?_
          show Steps p.tables e below (s₁.setTop (mkF m 39 #[.val (.int p0), .val (.int (p0 &&& (255 : Int32))), .val (.int ((p0 &&& (255 : Int32)) % (6 : Int32)))] [(.int ((p0 &&& (255 : Int32)) % (6 : Int32)))])) _
          refine XS.iconst X0.here hx rfl (hb hby d1_39) ?_
          exact k
        by_cases hc8 : ((p0 &&& (255 : Int32)) % (6 : Int32)) = (2 : Int32)
        · obtain ⟨fs, hr, hrun, hended, hW, hsame⟩ := X0.leave (v := some (.int (84 : Int32))) (fun h => by rw [Bd.returns] at h; cases h)
          refine ⟨_, _, pre7 _ ?_, hrun, hended, _, _, rfl, ?_, ⟨_, rfl⟩, hW, hsame.mono (by decide) (by decide)⟩
          · show Steps p.tables e below (s₁.setTop (mkF m 40 #[.val (.int p0), .val (.int (p0 &&& (255 : Int32))), .val (.int ((p0 &&& (255 : Int32)) % (6 : Int32)))] [(.int (2 : Int32)), (.int ((p0 &&& (255 : Int32)) % (6 : Int32)))])) _
            refine XS.icmpNo X0.here hx rfl (hb hby d1_40) rfl (teq (hc8 : ((p0 &&& (255 : Int32)) % (6 : Int32)) = (2 : Int32))).2 ?_
            show Steps p.tables e below (s₁.setTop (mkF m 43 #[.val (.int p0), .val (.int (p0 &&& (255 : Int32))), .val (.int ((p0 &&& (255 : Int32)) % (6 : Int32)))] [])) _
            refine XS.bipush X0.here hx rfl (hb hby d1_43) ?_
            show Steps p.tables e below (s₁.setTop (mkF m 45 #[.val (.int p0), .val (.int (p0 &&& (255 : Int32))), .val (.int ((p0 &&& (255 : Int32)) % (6 : Int32)))] [(.int (84 : Int32))])) _
            exact retN X0 hx (t := .char) Bd.returns (by simp) (hb hby d1_45) hr
          · show Qrmp Z p0 h0 n0 _ s₁.heap _
            rw [e0]
            exact ⟨(84 : Int32), rfl, N0, rfl, (by decide), (by decide)⟩
        · have pre9 : ∀ t, Steps p.tables e below (s₁.setTop (mkF m 48 #[.val (.int p0), .val (.int (p0 &&& (255 : Int32))), .val (.int ((p0 &&& (255 : Int32)) % (6 : Int32)))] [(.int (3 : Int32)), (.int ((p0 &&& (255 : Int32)) % (6 : Int32)))])) t → Steps p.tables e below (s₁.setTop (entryFrame m #[(.int p0)] 3)) t := fun t k => by
            refine pre7 _ ?_
            show Steps p.tables e below (s₁.setTop (mkF m 40 #[.val (.int p0), .val (.int (p0 &&& (255 : Int32))), .val (.int ((p0 &&& (255 : Int32)) % (6 : Int32)))] [(.int (2 : Int32)), (.int ((p0 &&& (255 : Int32)) % (6 : Int32)))])) _
            refine XS.icmpYes X0.here hx rfl (pc0 := 40) (pc' := 46) rfl (hb hby d1_40) rfl (feq (hc8 : ¬ (((p0 &&& (255 : Int32)) % (6 : Int32)) = (2 : Int32)))).2 (by decide) (by decide) ?_
            show Steps p.tables e below (s₁.setTop (mkF m 46 #[.val (.int p0), .val (.int (p0 &&& (255 : Int32))), .val (.int ((p0 &&& (255 : Int32)) % (6 : Int32)))] [])) _
            refine XS.iloadN X0.here hx rfl (hb hby d1_46) rfl ?_
            show Steps p.tables e below (s₁.setTop (mkF m 47 #[.val (.int p0), .val (.int (p0 &&& (255 : Int32))), .val (.int ((p0 &&& (255 : Int32)) % (6 : Int32)))] [(.int ((p0 &&& (255 : Int32)) % (6 : Int32)))])) _
            refine XS.iconst X0.here hx rfl (hb hby d1_47) ?_
            exact k
          by_cases hc10 : ((p0 &&& (255 : Int32)) % (6 : Int32)) = (3 : Int32)
          · obtain ⟨fs, hr, hrun, hended, hW, hsame⟩ := X0.leave (v := some (.int (72 : Int32))) (fun h => by rw [Bd.returns] at h; cases h)
            refine ⟨_, _, pre9 _ ?_, hrun, hended, _, _, rfl, ?_, ⟨_, rfl⟩, hW, hsame.mono (by decide) (by decide)⟩
            · show Steps p.tables e below (s₁.setTop (mkF m 48 #[.val (.int p0), .val (.int (p0 &&& (255 : Int32))), .val (.int ((p0 &&& (255 : Int32)) % (6 : Int32)))] [(.int (3 : Int32)), (.int ((p0 &&& (255 : Int32)) % (6 : Int32)))])) _
              refine XS.icmpNo X0.here hx rfl (hb hby d1_48) rfl (teq (hc10 : ((p0 &&& (255 : Int32)) % (6 : Int32)) = (3 : Int32))).2 ?_
              show Steps p.tables e below (s₁.setTop (mkF m 51 #[.val (.int p0), .val (.int (p0 &&& (255 : Int32))), .val (.int ((p0 &&& (255 : Int32)) % (6 : Int32)))] [])) _
              refine XS.bipush X0.here hx rfl (hb hby d1_51) ?_
              show Steps p.tables e below (s₁.setTop (mkF m 53 #[.val (.int p0), .val (.int (p0 &&& (255 : Int32))), .val (.int ((p0 &&& (255 : Int32)) % (6 : Int32)))] [(.int (72 : Int32))])) _
              exact retN X0 hx (t := .char) Bd.returns (by simp) (hb hby d1_53) hr
            · show Qrmp Z p0 h0 n0 _ s₁.heap _
              rw [e0]
              exact ⟨(72 : Int32), rfl, N0, rfl, (by decide), (by decide)⟩
          · have pre11 : ∀ t, Steps p.tables e below (s₁.setTop (mkF m 56 #[.val (.int p0), .val (.int (p0 &&& (255 : Int32))), .val (.int ((p0 &&& (255 : Int32)) % (6 : Int32)))] [(.int (4 : Int32)), (.int ((p0 &&& (255 : Int32)) % (6 : Int32)))])) t → Steps p.tables e below (s₁.setTop (entryFrame m #[(.int p0)] 3)) t := fun t k => by
              refine pre9 _ ?_
              show Steps p.tables e below (s₁.setTop (mkF m 48 #[.val (.int p0), .val (.int (p0 &&& (255 : Int32))), .val (.int ((p0 &&& (255 : Int32)) % (6 : Int32)))] [(.int (3 : Int32)), (.int ((p0 &&& (255 : Int32)) % (6 : Int32)))])) _
              refine XS.icmpYes X0.here hx rfl (pc0 := 48) (pc' := 54) rfl (hb hby d1_48) rfl (feq (hc10 : ¬ (((p0 &&& (255 : Int32)) % (6 : Int32)) = (3 : Int32)))).2 (by decide) (by decide) ?_
              show Steps p.tables e below (s₁.setTop (mkF m 54 #[.val (.int p0), .val (.int (p0 &&& (255 : Int32))), .val (.int ((p0 &&& (255 : Int32)) % (6 : Int32)))] [])) _
              refine XS.iloadN X0.here hx rfl (hb hby d1_54) rfl ?_
              show Steps p.tables e below (s₁.setTop (mkF m 55 #[.val (.int p0), .val (.int (p0 &&& (255 : Int32))), .val (.int ((p0 &&& (255 : Int32)) % (6 : Int32)))] [(.int ((p0 &&& (255 : Int32)) % (6 : Int32)))])) _
              refine XS.iconst X0.here hx rfl (hb hby d1_55) ?_
              exact k
            by_cases hc12 : ((p0 &&& (255 : Int32)) % (6 : Int32)) = (4 : Int32)
            · obtain ⟨fs, hr, hrun, hended, hW, hsame⟩ := X0.leave (v := some (.int (65 : Int32))) (fun h => by rw [Bd.returns] at h; cases h)
              refine ⟨_, _, pre11 _ ?_, hrun, hended, _, _, rfl, ?_, ⟨_, rfl⟩, hW, hsame.mono (by decide) (by decide)⟩
              · show Steps p.tables e below (s₁.setTop (mkF m 56 #[.val (.int p0), .val (.int (p0 &&& (255 : Int32))), .val (.int ((p0 &&& (255 : Int32)) % (6 : Int32)))] [(.int (4 : Int32)), (.int ((p0 &&& (255 : Int32)) % (6 : Int32)))])) _
                refine XS.icmpNo X0.here hx rfl (hb hby d1_56) rfl (teq (hc12 : ((p0 &&& (255 : Int32)) % (6 : Int32)) = (4 : Int32))).2 ?_
                show Steps p.tables e below (s₁.setTop (mkF m 59 #[.val (.int p0), .val (.int (p0 &&& (255 : Int32))), .val (.int ((p0 &&& (255 : Int32)) % (6 : Int32)))] [])) _
                refine XS.bipush X0.here hx rfl (hb hby d1_59) ?_
                show Steps p.tables e below (s₁.setTop (mkF m 61 #[.val (.int p0), .val (.int (p0 &&& (255 : Int32))), .val (.int ((p0 &&& (255 : Int32)) % (6 : Int32)))] [(.int (65 : Int32))])) _
                exact retN X0 hx (t := .char) Bd.returns (by simp) (hb hby d1_61) hr
              · show Qrmp Z p0 h0 n0 _ s₁.heap _
                rw [e0]
                exact ⟨(65 : Int32), rfl, N0, rfl, (by decide), (by decide)⟩
            · obtain ⟨fs, hr, hrun, hended, hW, hsame⟩ := X0.leave (v := some (.int (68 : Int32))) (fun h => by rw [Bd.returns] at h; cases h)
              refine ⟨_, _, pre11 _ ?_, hrun, hended, _, _, rfl, ?_, ⟨_, rfl⟩, hW, hsame.mono (by decide) (by decide)⟩
              · show Steps p.tables e below (s₁.setTop (mkF m 56 #[.val (.int p0), .val (.int (p0 &&& (255 : Int32))), .val (.int ((p0 &&& (255 : Int32)) % (6 : Int32)))] [(.int (4 : Int32)), (.int ((p0 &&& (255 : Int32)) % (6 : Int32)))])) _
                refine XS.icmpYes X0.here hx rfl (pc0 := 56) (pc' := 62) rfl (hb hby d1_56) rfl (feq (hc12 : ¬ (((p0 &&& (255 : Int32)) % (6 : Int32)) = (4 : Int32)))).2 (by decide) (by decide) ?_
                show Steps p.tables e below (s₁.setTop (mkF m 62 #[.val (.int p0), .val (.int (p0 &&& (255 : Int32))), .val (.int ((p0 &&& (255 : Int32)) % (6 : Int32)))] [])) _
                refine XS.bipush X0.here hx rfl (hb hby d1_62) ?_
                show Steps p.tables e below (s₁.setTop (mkF m 64 #[.val (.int p0), .val (.int (p0 &&& (255 : Int32))), .val (.int ((p0 &&& (255 : Int32)) % (6 : Int32)))] [(.int (68 : Int32))])) _
                exact retN X0 hx (t := .char) Bd.returns (by simp) (hb hby d1_64) hr
              · show Qrmp Z p0 h0 n0 _ s₁.heap _
                rw [e0]
                exact ⟨(68 : Int32), rfl, N0, rfl, (by decide), (by decide)⟩
theorem d2_0 : decode prog_36_method_5_code 0 = .ok (.aload_n 0, 1) := by decide +kernel
theorem d2_1 : decode prog_36_method_5_code 1 = .ok (.getstatic 3, 3) := by decide +kernel
theorem d2_4 : decode prog_36_method_5_code 4 = .ok (.if_acmp .eq 21, 3) := by decide +kernel
theorem d2_25 : decode prog_36_method_5_code 25 = .ok (.iconst 1, 1) := by decide +kernel
theorem d2_26 : decode prog_36_method_5_code 26 = .ok (.goto 4, 3) := by decide +kernel
theorem d2_30 : decode prog_36_method_5_code 30 = .ok (.ireturn, 1) := by decide +kernel
theorem pn_2 : plainName "com/example/task_relay/taskrelay/Scope" = true := by first | (simp [plainName, overriddenIn]; done) | decide +kernel
theorem ef_rmaf0 (m : MethodId) (o1 : Addr) : entryFrame m #[(.ref wF), (.ref o1)] 2 = mkF m 0 #[.val (.ref wF), .val (.ref o1)] [] := by first | (simp [entryFrame, mkF, argsToLocals, Value.category]; done) | rfl
def Qrmaf0 (Z : State) (o1 : Addr) (wF : Addr) (G1 : Int32) (h0 : Heap) (n0 : Nat) (v : Option Value) (h : Heap) (L : List Loc) : Prop := v = some (.int (1 : Int32)) ∧ Fr n0 L ∧ Keep h0 h []
set_option maxRecDepth 65536 in
set_option maxHeartbeats 40000000 in
theorem rmaf0 (l : Launch) (Z : State) (a0 : Array Value) (hw : ∀ d ∈ tables_1, d.before a0 Z = true) (ws : List Jvm.Cond) (o1 : Addr) (wF : Addr) (G1 : Int32) (h0 : Heap) (n0 : Nat) (Z0 : n0 ≤ h0.size) (H0 : Sta Z h0 "com/example/task_relay/taskrelay/Scope" "FULL" "Lcom/example/task_relay/taskrelay/Scope;" (.ref wF)) (H1 : Sta Z h0 "java/lang/String" "COMPACT_STRINGS" "Z" (.int G1)) (hG1 : ¬ (G1 = (0 : Int32))) (hh58 : Jvm.Lit.constHeld Z "com/example/task_relay/taskrelay/Scope" 58) (hh60 : Jvm.Lit.constHeld Z "com/example/task_relay/taskrelay/Scope" 60) (X00 : Ext Z.heap h0) (hcw : Jvm.Lit.compactW.before a0 Z = true) :
    MetFree l (⟨"com/example/task_relay/taskrelay/Scope", "allows", "(Ljava/lang/String;)Z"⟩ : MethodName) (head1 (Jvm.Cond.code (⟨"com/example/task_relay/taskrelay/Scope", "allows", "(Ljava/lang/String;)Z"⟩ : MethodName) prog_36_method_5_code 2 (some .boolean) :: ws) ({ frames := 0, cells := 0, slots := 0, locals := 0 } : Room)) (fun a U => a = #[(.ref wF), (.ref o1)] ∧ Z.Warmed39 U.vm ∧ U.heap = h0 ∧ IB Z U.vm [""]) (fun _ _ _ _ _ => True) (fun _ U o U' => ∃ v L, o = .returned v ∧ Qrmaf0 Z o1 wF G1 h0 n0 v U'.heap L ∧ ReturnedEndW U o U' L ({ frames := 0, cells := 0, slots := 0, locals := 0 } : Room).cells ({ frames := 0, cells := 0, slots := 0, locals := 0 } : Room).slots) := by
  refine MetFree.of_bodySF (plainFor_of_name pn_2) hisR ?_
  intro p e s m args below meth c s₁ Bd hml0 hP hK
  obtain ⟨rfl, hZ, hh, hI⟩ := hP
  have hx := Bd.exec
  have hby := Bd.bytes
  have hml : c.maxLocals = 2 := hml0
  have hown : s.vm.findClass "com/example/task_relay/taskrelay/Scope" = some m.cls := findClass_of_methodNamed Bd.named
  have hnm := (name_of_methodNamed Bd.named Bd.method).1
  have X0 : Stand p l e ({ frames := 0, cells := 0, slots := 0, locals := 0 } : Room) s m #[(.ref wF), (.ref o1)] below meth c s₁ [] 0 0 := Stand.of_body Bd
  have e0 : s₁.heap = h0 := by rw [← hh, Bd.state]; rfl
  have N0 := Fr.nil h0.size
  have pre0 : ∀ t, Steps p.tables e below (s₁.setTop (mkF m 0 #[.val (.ref wF), .val (.ref o1)] [])) t → Steps p.tables e below (s₁.setTop (entryFrame m #[(.ref wF), (.ref o1)] 2)) t := fun t k => castTop (ef_rmaf0 m o1) k
  have KC0 : Keep h0 h0 [] := Keep.refl _ _
  have hS0 : s.Since s.vm h0.size := (State.WarmedH.refl s).since _
  obtain ⟨T13, X13, e13, st13⟩ := getS2 X0 hx hZ hown (host := "") (Or.inl (hw _ (List.mem_of_getElem? (i := 20) rfl))) Via.refl e0 H0 (g := (mkF m 1 #[.val (.ref wF), .val (.ref o1)] [(.ref wF)])) rfl (hb hby d2_1)
  have z14 := congrArg Array.size e13
  obtain ⟨fs, hr, hrun, hended, rE1, rE2, rE3, rE4⟩ := leaveW (s := s) (vm₁ := s.vm) X13 hS0 (by omega : h0.size ≤ T13.heap.size) (v := some (.int (1 : Int32))) (fun h => by rw [Bd.returns] at h; cases h)
  refine ⟨_, _, pre0 _ ?_, hrun, hended, _, _, rfl, ?_, rE1, rE2, rE3, rE4.mono (by decide) (by decide)⟩
  · show Steps p.tables e below (s₁.setTop (mkF m 0 #[.val (.ref wF), .val (.ref o1)] [])) _
    refine XS.aloadN X0.here hx rfl (hb hby d2_0) rfl rfl ?_
    show Steps p.tables e below (s₁.setTop (mkF m 1 #[.val (.ref wF), .val (.ref o1)] [(.ref wF)])) _
    refine st13 _ ?_
    show Steps p.tables e below (T13.setTop (mkF m 4 #[.val (.ref wF), .val (.ref o1)] [(.ref wF), (.ref wF)])) _
    refine Jvm.RoadKit.acmp (g := (mkF m 4 #[.val (.ref wF), .val (.ref o1)] [(.ref wF), (.ref wF)])) X13 hx rfl rfl rfl (pc0 := 4) (pc' := 25) (same := true) rfl (hb hby d2_4) rfl (decide_eq_true rfl) (by decide) (by decide) ?_
    show Steps p.tables e below (T13.setTop (mkF m 25 #[.val (.ref wF), .val (.ref o1)] [])) _
    refine XS.iconst X13.here hx rfl (hb hby d2_25) ?_
    show Steps p.tables e below (T13.setTop (mkF m 26 #[.val (.ref wF), .val (.ref o1)] [(.int (1 : Int32))])) _
    refine XS.goto X13.here hx rfl (pc0 := 26) (pc' := 30) rfl (hb hby d2_26) (by decide) (by decide) ?_
    show Steps p.tables e below (T13.setTop (mkF m 30 #[.val (.ref wF), .val (.ref o1)] [(.int (1 : Int32))])) _
    exact retN X13 hx (t := .boolean) Bd.returns (by simp) (hb hby d2_30) hr
  · show Qrmaf0 Z o1 wF G1 h0 n0 _ T13.heap _
    rw [e13]
    exact ⟨rfl, (fun y hy => Nat.le_trans Z0 (N0 y hy)), KC0⟩
theorem d2_7 : decode prog_36_method_5_code 7 = .ok (.aload_n 1, 1) := by decide +kernel
theorem d2_8 : decode prog_36_method_5_code 8 = .ok (.ldc 58, 2) := by decide +kernel
theorem own_sa : ∀ d ∈ Bundle.stringAtoms, d ∈ tables_1 := by decide +kernel
theorem d2_10 : decode prog_36_method_5_code 10 = .ok (.invokevirtual 37, 3) := by decide +kernel
theorem own_weq : ∀ d ∈ StrChars.Road.wordsEq, d ∈ tables_1 := by decide +kernel
theorem pd_0 : parseMethodDescriptor "(Ljava/lang/Object;)Z" = some ⟨[(.object "java/lang/Object")], some .boolean⟩ := by decide +kernel
theorem d2_13 : decode prog_36_method_5_code 13 = .ok (.ifCond .ne 12, 3) := by decide +kernel
theorem d2_16 : decode prog_36_method_5_code 16 = .ok (.aload_n 1, 1) := by decide +kernel
theorem d2_17 : decode prog_36_method_5_code 17 = .ok (.ldc 60, 2) := by decide +kernel
theorem d2_19 : decode prog_36_method_5_code 19 = .ok (.invokevirtual 37, 3) := by decide +kernel
theorem d2_22 : decode prog_36_method_5_code 22 = .ok (.ifCond .eq 7, 3) := by decide +kernel
theorem d2_29 : decode prog_36_method_5_code 29 = .ok (.iconst 0, 1) := by decide +kernel
theorem ef_rmar0 (m : MethodId) (o0 : Addr) (o1 : Addr) : entryFrame m #[(.ref o0), (.ref o1)] 2 = mkF m 0 #[.val (.ref o0), .val (.ref o1)] [] := by first | (simp [entryFrame, mkF, argsToLocals, Value.category]; done) | rfl
def Qrmar0 (Z : State) (o0 : Addr) (o1 : Addr) (wF : Addr) (G1 : Int32) (bv : Addr) (kb : ClassId) (h0 : Heap) (n0 : Nat) (v : Option Value) (h : Heap) (L : List Loc) : Prop := v = some (.int (0 : Int32)) ∧ Fr n0 L ∧ Keep h0 h []
set_option maxRecDepth 65536 in
set_option maxHeartbeats 40000000 in
theorem rmar0 (l : Launch) (Z : State) (a0 : Array Value) (hw : ∀ d ∈ tables_1, d.before a0 Z = true) (ws : List Jvm.Cond) (o0 : Addr) (o1 : Addr) (wF : Addr) (G1 : Int32) (bv : Addr) (kb : ClassId) (h0 : Heap) (n0 : Nat) (Z0 : n0 ≤ h0.size) (H0 : Sta Z h0 "com/example/task_relay/taskrelay/Scope" "FULL" "Lcom/example/task_relay/taskrelay/Scope;" (.ref wF)) (H1 : Sta Z h0 "java/lang/String" "COMPACT_STRINGS" "Z" (.int G1)) (hG1 : ¬ (G1 = (0 : Int32))) (hh58 : Jvm.Lit.constHeld Z "com/example/task_relay/taskrelay/Scope" 58) (hh60 : Jvm.Lit.constHeld Z "com/example/task_relay/taskrelay/Scope" 60) (X00 : Ext Z.heap h0) (hcw : Jvm.Lit.compactW.before a0 Z = true) (hne : ¬ (o0 = wF)) (H8 : Exa Z h0 o1 "java/lang/String") (H9 : Fld Z h0 o1 "java/lang/String" "coder" "B" (.int (0 : Int32))) (H10 : Fld Z h0 o1 "java/lang/String" "value" "[B" (.ref bv)) (H11 : Arv Z h0 bv kb .byte (0 : Int32) [] (.int (0 : Int32))) :
    MetFree l (⟨"com/example/task_relay/taskrelay/Scope", "allows", "(Ljava/lang/String;)Z"⟩ : MethodName) (head1 (Jvm.Cond.code (⟨"com/example/task_relay/taskrelay/Scope", "allows", "(Ljava/lang/String;)Z"⟩ : MethodName) prog_36_method_5_code 2 (some .boolean) :: ws) ({ frames := 2, cells := 4, slots := 36, locals := 28 } : Room)) (fun a U => a = #[(.ref o0), (.ref o1)] ∧ Z.Warmed39 U.vm ∧ U.heap = h0 ∧ IB Z U.vm [""]) (fun _ _ _ _ _ => True) (fun _ U o U' => ∃ v L, o = .returned v ∧ Qrmar0 Z o0 o1 wF G1 bv kb h0 n0 v U'.heap L ∧ ReturnedEndW U o U' L ({ frames := 2, cells := 4, slots := 36, locals := 28 } : Room).cells ({ frames := 2, cells := 4, slots := 36, locals := 28 } : Room).slots) := by
  refine MetFree.of_bodySF (plainFor_of_name pn_2) hisR ?_
  intro p e s m args below meth c s₁ Bd hml0 hP hK
  obtain ⟨rfl, hZ, hh, hI⟩ := hP
  have hx := Bd.exec
  have hby := Bd.bytes
  have hml : c.maxLocals = 2 := hml0
  have hown : s.vm.findClass "com/example/task_relay/taskrelay/Scope" = some m.cls := findClass_of_methodNamed Bd.named
  have hnm := (name_of_methodNamed Bd.named Bd.method).1
  have X0 : Stand p l e ({ frames := 2, cells := 4, slots := 36, locals := 28 } : Room) s m #[(.ref o0), (.ref o1)] below meth c s₁ [] 0 0 := Stand.of_body Bd
  have e0 : s₁.heap = h0 := by rw [← hh, Bd.state]; rfl
  have N0 := Fr.nil h0.size
  have pre0 : ∀ t, Steps p.tables e below (s₁.setTop (mkF m 0 #[.val (.ref o0), .val (.ref o1)] [])) t → Steps p.tables e below (s₁.setTop (entryFrame m #[(.ref o0), (.ref o1)] 2)) t := fun t k => castTop (ef_rmar0 m o0 o1) k
  have z15 : @LT.lt Nat _ o1 (Array.size h0) := H8.lt
  have z16 : @LT.lt Nat _ o1 (Array.size h0) := H9.lt
  have z17 : @LT.lt Nat _ o1 (Array.size h0) := H10.lt
  have z18 : @LT.lt Nat _ bv (Array.size h0) := H11.lt
  have KC0 : Keep h0 h0 [] := Keep.refl _ _
  have hS0 : s.Since s.vm h0.size := (State.WarmedH.refl s).since _
  obtain ⟨T19, X19, e19, st19⟩ := getS2 X0 hx hZ hown (host := "") (Or.inl (hw _ (List.mem_of_getElem? (i := 20) rfl))) Via.refl e0 H0 (g := (mkF m 1 #[.val (.ref o0), .val (.ref o1)] [(.ref o0)])) rfl (hb hby d2_1)
  obtain ⟨a20, T20, h20, k20, bv20, kb20, X20, e20, E20, hS20, z20k, hZ20, hw20, PE20, PC20, PV20, PA20, z20a, z20b, hI20, Lt20, st20⟩ := ldcSVL (s := s) (vm0 := s.vm) X19 hx hZ hown (hw _ (List.mem_of_getElem? (i := 22) rfl)) (fun d hd => hw d (own_sa d hd)) e19 hS0 (by omega) (by rw [hh]; exact N0) (fun b cl q => by rw [hh]; exact X00.2 b cl q) hI (by decide) hh58 hcw (vs := [(.int (71 : Int32)), (.int (69 : Int32)), (.int (84 : Int32))]) (z := (3 : Int32)) ⟨by decide, rfl⟩ (by decide) rfl (g := (mkF m 8 #[.val (.ref o0), .val (.ref o1)] [(.ref o1)])) rfl (hb hby d2_8) (n := 12) (by decide) (by decide) (by decide) (by decide)
  have z21 := E20.1
  have KC22 : Keep h0 h20 [] := KC0.ext E20
  have z23 : @LT.lt Nat _ a20 (Array.size h20) := PE20.lt
  have z24 : @LT.lt Nat _ bv20 (Array.size h20) := PA20.lt
  have Fc27 := (H8.ext E20)
  have Fc28 := (H10.ext E20)
  have Fc29 := (H9.ext E20)
  have Fc30 := (H11.ext E20)
  have hp26 : ∀ c ∈ ([] : List Int32), ¬ c < 0 ∧ ¬ (255 : Int32) < c := by
    intro c hc; cases hc
  have hcd26 : StrChars.Road.CodA ([] : List Int32) 0 (0 : Int32) [] := StrChars.Road.codOf (n := 0) rfl (fun c hc => (hp26 c hc).2)
  have hp31 : ∀ c ∈ ([(71 : Int32), (69 : Int32), (84 : Int32)] : List Int32), ¬ c < 0 ∧ ¬ (255 : Int32) < c := by
    decide
  have hcd31 : StrChars.Road.CodA ([(71 : Int32), (69 : Int32), (84 : Int32)] : List Int32) 0 (3 : Int32) [(.int (71 : Int32)), (.int (69 : Int32)), (.int (84 : Int32))] := StrChars.Road.codOf (n := 3) rfl (fun c hc => (hp31 c hc).2)
  have Fc32 := (H1.ext E20)
  obtain ⟨cq25, kq25, qa25, qb25, qc25⟩ := isOf hZ20 e20 Fc27
  obtain ⟨v25, _, ⟨T25, L25, k25, n25⟩, -, X25, ⟨Lc25, hQ25, l25, y25, z25⟩, st25⟩ := X20.virtualBack hx (y := (⟨"java/lang/String", "equals", "(Ljava/lang/Object;)Z"⟩ : MethodName)) (z := (⟨"java/lang/String", "equals", "(Ljava/lang/Object;)Z"⟩ : MethodName)) hw20 (mvT hZ20 (hw _ (List.mem_of_getElem? (i := 23) rfl))) (mvT hZ20 (hw _ (List.mem_of_getElem? (i := 24) rfl))) (notFace_of_selects (args := #[]) (mvT hZ20 (hw _ (List.mem_of_getElem? (i := 26) rfl)))) (mvT hZ20 (hw _ (List.mem_of_getElem? (i := 26) rfl))) (mvT hZ20 (hw _ (List.mem_of_getElem? (i := 25) rfl))) (by decide) (StrChars.Road.eqW (W := 0) hZ20 (fun d hd => hw d (own_weq d hd)) (kI := 4) (hw _ (List.mem_of_getElem? (i := 6) rfl)) Fc27 Fc28 Fc29 Fc30 hcd26 (own_up _ hp26) (Nat.le_of_ble_eq_true rfl) PE20 PV20 PC20 PA20 hcd31 (own_up _ hp31) (Nat.le_of_ble_eq_true rfl) Fc32 hG1 (by decide) (by decide)) qa25 qc25 (g := (mkF m 10 #[.val (.ref o0), .val (.ref o1)] [(.ref a20), (.ref o1)])) rfl (by rw [hml]; rfl) (Steps.refl _) (argsL := [(.ref a20)]) (rest := []) (lenOf pd_0 rfl) rfl (by show 2 * 0 + _ ≤ _; exact Nat.le_of_eq rfl) (hb hby d2_10) (fun _ _ => ⟨rfl, e20, (by decide : 2 + 0 ≤ _), (by decide : 16 + 0 ≤ _)⟩)
  dsimp only [Pt.U, Pt.locs, Pt.cells, Pt.slots] at X25 l25 y25 z25 st25 hQ25
  subst l25 y25 z25
  obtain ⟨hv25, rfl, e25⟩ := hQ25
  have N25 := Fr.app N0 (Fr.nil h0.size)
  rcases hv25 with ⟨rfl, hd25⟩ | ⟨rfl, hd25⟩
  · exact absurd hd25 (by decide)
  · obtain ⟨a33, T33, h33, k33, bv33, kb33, X33, e33, E33, hS33, z33k, hZ33, hw33, PE33, PC33, PV33, PA33, z33a, z33b, hI33, Lt33, st33⟩ := ldcSVL (s := s) (vm0 := T20.vm) X25 hx hZ20 hw20 (hw _ (List.mem_of_getElem? (i := 37) rfl)) (fun d hd => hw d (own_sa d hd)) e25 hS20 (by omega) (by rw [hh]; exact N25) (fun b cl q => by rw [hh]; exact X00.2 b cl q) hI20 (by decide) hh60 hcw (vs := [(.int (72 : Int32)), (.int (69 : Int32)), (.int (65 : Int32)), (.int (68 : Int32))]) (z := (4 : Int32)) ⟨by decide, rfl⟩ (by decide) rfl (g := (mkF m 17 #[.val (.ref o0), .val (.ref o1)] [(.ref o1)])) rfl (hb hby d2_17) (n := 16) (by decide) (by decide) (by decide) (by decide)
    have z34 := E33.1
    have KC35 : Keep h0 h33 [] := KC22.ext E33
    have z36 : @LT.lt Nat _ a33 (Array.size h33) := PE33.lt
    have z37 : @LT.lt Nat _ bv33 (Array.size h33) := PA33.lt
    have Fc40 := (Fc27.ext E33)
    have Fc41 := (Fc28.ext E33)
    have Fc42 := (Fc29.ext E33)
    have Fc43 := (Fc30.ext E33)
    have hp39 : ∀ c ∈ ([] : List Int32), ¬ c < 0 ∧ ¬ (255 : Int32) < c := by
      intro c hc; cases hc
    have hcd39 : StrChars.Road.CodA ([] : List Int32) 0 (0 : Int32) [] := StrChars.Road.codOf (n := 0) rfl (fun c hc => (hp39 c hc).2)
    have hp44 : ∀ c ∈ ([(72 : Int32), (69 : Int32), (65 : Int32), (68 : Int32)] : List Int32), ¬ c < 0 ∧ ¬ (255 : Int32) < c := by
      decide
    have hcd44 : StrChars.Road.CodA ([(72 : Int32), (69 : Int32), (65 : Int32), (68 : Int32)] : List Int32) 0 (4 : Int32) [(.int (72 : Int32)), (.int (69 : Int32)), (.int (65 : Int32)), (.int (68 : Int32))] := StrChars.Road.codOf (n := 4) rfl (fun c hc => (hp44 c hc).2)
    have Fc45 := (Fc32.ext E33)
    obtain ⟨cq38, kq38, qa38, qb38, qc38⟩ := isOf hZ33 e33 Fc40
    obtain ⟨v38, _, ⟨T38, L38, k38, n38⟩, -, X38, ⟨Lc38, hQ38, l38, y38, z38⟩, st38⟩ := X33.virtualBack hx (y := (⟨"java/lang/String", "equals", "(Ljava/lang/Object;)Z"⟩ : MethodName)) (z := (⟨"java/lang/String", "equals", "(Ljava/lang/Object;)Z"⟩ : MethodName)) hw33 (mvT hZ33 (hw _ (List.mem_of_getElem? (i := 23) rfl))) (mvT hZ33 (hw _ (List.mem_of_getElem? (i := 24) rfl))) (notFace_of_selects (args := #[]) (mvT hZ33 (hw _ (List.mem_of_getElem? (i := 26) rfl)))) (mvT hZ33 (hw _ (List.mem_of_getElem? (i := 26) rfl))) (mvT hZ33 (hw _ (List.mem_of_getElem? (i := 25) rfl))) (by decide) (StrChars.Road.eqW (W := 0) hZ33 (fun d hd => hw d (own_weq d hd)) (kI := 4) (hw _ (List.mem_of_getElem? (i := 6) rfl)) Fc40 Fc41 Fc42 Fc43 hcd39 (own_up _ hp39) (Nat.le_of_ble_eq_true rfl) PE33 PV33 PC33 PA33 hcd44 (own_up _ hp44) (Nat.le_of_ble_eq_true rfl) Fc45 hG1 (by decide) (by decide)) qa38 qc38 (g := (mkF m 19 #[.val (.ref o0), .val (.ref o1)] [(.ref a33), (.ref o1)])) rfl (by rw [hml]; rfl) (Steps.refl _) (argsL := [(.ref a33)]) (rest := []) (lenOf pd_0 rfl) rfl (by show 2 * 0 + _ ≤ _; exact Nat.le_of_eq rfl) (hb hby d2_19) (fun _ _ => ⟨rfl, e33, (by decide : 4 + 0 ≤ _), (by decide : 36 + 0 ≤ _)⟩)
    dsimp only [Pt.U, Pt.locs, Pt.cells, Pt.slots] at X38 l38 y38 z38 st38 hQ38
    subst l38 y38 z38
    obtain ⟨hv38, rfl, e38⟩ := hQ38
    have N38 := Fr.app N25 (Fr.nil h0.size)
    rcases hv38 with ⟨rfl, hd38⟩ | ⟨rfl, hd38⟩
    · exact absurd hd38 (by decide)
    · have z46 := congrArg Array.size e38
      obtain ⟨fs, hr, hrun, hended, rE1, rE2, rE3, rE4⟩ := leaveW (s := s) (vm₁ := T33.vm) X38 hS33 (by omega : k33 ≤ T38.heap.size) (v := some (.int (0 : Int32))) (fun h => by rw [Bd.returns] at h; cases h)
      refine ⟨_, _, pre0 _ ?_, hrun, hended, _, _, rfl, ?_, rE1, rE2, rE3, rE4.mono (by decide) (by decide)⟩
      · show Steps p.tables e below (s₁.setTop (mkF m 0 #[.val (.ref o0), .val (.ref o1)] [])) _
        refine XS.aloadN X0.here hx rfl (hb hby d2_0) rfl rfl ?_
        show Steps p.tables e below (s₁.setTop (mkF m 1 #[.val (.ref o0), .val (.ref o1)] [(.ref o0)])) _
        refine st19 _ ?_
        show Steps p.tables e below (T19.setTop (mkF m 4 #[.val (.ref o0), .val (.ref o1)] [(.ref wF), (.ref o0)])) _
        refine Jvm.RoadKit.acmp (g := (mkF m 4 #[.val (.ref o0), .val (.ref o1)] [(.ref wF), (.ref o0)])) X19 hx rfl rfl rfl (pc0 := 4) (pc' := 7) (same := false) rfl (hb hby d2_4) rfl (decide_eq_false fun k => hne (Value.ref.inj k)) (by decide) (by decide) ?_
        show Steps p.tables e below (T19.setTop (mkF m 7 #[.val (.ref o0), .val (.ref o1)] [])) _
        refine XS.aloadN X19.here hx rfl (hb hby d2_7) rfl rfl ?_
        show Steps p.tables e below (T19.setTop (mkF m 8 #[.val (.ref o0), .val (.ref o1)] [(.ref o1)])) _
        refine st20 _ ?_
        show Steps p.tables e below (T20.setTop (mkF m 10 #[.val (.ref o0), .val (.ref o1)] [(.ref a20), (.ref o1)])) _
        refine st25.trans ?_
        show Steps p.tables e below (T25.setTop (mkF m 13 #[.val (.ref o0), .val (.ref o1)] [(.int (0 : Int32))])) _
        refine XS.ifNo X25.here hx rfl (hb hby d2_13) rfl ((if0 _ _).trans (teq (by decide : (0 : Int32) = (0 : Int32))).2) ?_
        show Steps p.tables e below (T25.setTop (mkF m 16 #[.val (.ref o0), .val (.ref o1)] [])) _
        refine XS.aloadN X25.here hx rfl (hb hby d2_16) rfl rfl ?_
        show Steps p.tables e below (T25.setTop (mkF m 17 #[.val (.ref o0), .val (.ref o1)] [(.ref o1)])) _
        refine st33 _ ?_
        show Steps p.tables e below (T33.setTop (mkF m 19 #[.val (.ref o0), .val (.ref o1)] [(.ref a33), (.ref o1)])) _
        refine st38.trans ?_
        show Steps p.tables e below (T38.setTop (mkF m 22 #[.val (.ref o0), .val (.ref o1)] [(.int (0 : Int32))])) _
        refine XS.ifYes X38.here hx rfl (pc0 := 22) (pc' := 29) rfl (hb hby d2_22) rfl ((if0 _ _).trans (teq (by decide : (0 : Int32) = (0 : Int32))).1) (by decide) (by decide) ?_
        show Steps p.tables e below (T38.setTop (mkF m 29 #[.val (.ref o0), .val (.ref o1)] [])) _
        refine XS.iconst X38.here hx rfl (hb hby d2_29) ?_
        show Steps p.tables e below (T38.setTop (mkF m 30 #[.val (.ref o0), .val (.ref o1)] [(.int (0 : Int32))])) _
        exact retN X38 hx (t := .boolean) Bd.returns (by simp) (hb hby d2_30) hr
      · show Qrmar0 Z o0 o1 wF G1 bv kb h0 n0 _ T38.heap _
        rw [e38]
        exact ⟨rfl, (fun y hy => Nat.le_trans Z0 (N38 y hy)), KC35⟩
theorem ef_rmaf1 (m : MethodId) (o1 : Addr) : entryFrame m #[(.ref wF), (.ref o1)] 2 = mkF m 0 #[.val (.ref wF), .val (.ref o1)] [] := by first | (simp [entryFrame, mkF, argsToLocals, Value.category]; done) | rfl
def Qrmaf1 (Z : State) (o1 : Addr) (wF : Addr) (G1 : Int32) (h0 : Heap) (n0 : Nat) (v : Option Value) (h : Heap) (L : List Loc) : Prop := v = some (.int (1 : Int32)) ∧ Fr n0 L ∧ Keep h0 h []
set_option maxRecDepth 65536 in
set_option maxHeartbeats 40000000 in
theorem rmaf1 (l : Launch) (Z : State) (a0 : Array Value) (hw : ∀ d ∈ tables_1, d.before a0 Z = true) (ws : List Jvm.Cond) (o1 : Addr) (wF : Addr) (G1 : Int32) (h0 : Heap) (n0 : Nat) (Z0 : n0 ≤ h0.size) (H0 : Sta Z h0 "com/example/task_relay/taskrelay/Scope" "FULL" "Lcom/example/task_relay/taskrelay/Scope;" (.ref wF)) (H1 : Sta Z h0 "java/lang/String" "COMPACT_STRINGS" "Z" (.int G1)) (hG1 : ¬ (G1 = (0 : Int32))) (hh58 : Jvm.Lit.constHeld Z "com/example/task_relay/taskrelay/Scope" 58) (hh60 : Jvm.Lit.constHeld Z "com/example/task_relay/taskrelay/Scope" 60) (X00 : Ext Z.heap h0) (hcw : Jvm.Lit.compactW.before a0 Z = true) :
    MetFree l (⟨"com/example/task_relay/taskrelay/Scope", "allows", "(Ljava/lang/String;)Z"⟩ : MethodName) (head1 (Jvm.Cond.code (⟨"com/example/task_relay/taskrelay/Scope", "allows", "(Ljava/lang/String;)Z"⟩ : MethodName) prog_36_method_5_code 2 (some .boolean) :: ws) ({ frames := 0, cells := 0, slots := 0, locals := 0 } : Room)) (fun a U => a = #[(.ref wF), (.ref o1)] ∧ Z.Warmed39 U.vm ∧ U.heap = h0 ∧ IB Z U.vm []) (fun _ _ _ _ _ => True) (fun _ U o U' => ∃ v L, o = .returned v ∧ Qrmaf1 Z o1 wF G1 h0 n0 v U'.heap L ∧ ReturnedEndW U o U' L ({ frames := 0, cells := 0, slots := 0, locals := 0 } : Room).cells ({ frames := 0, cells := 0, slots := 0, locals := 0 } : Room).slots) := by
  refine MetFree.of_bodySF (plainFor_of_name pn_2) hisR ?_
  intro p e s m args below meth c s₁ Bd hml0 hP hK
  obtain ⟨rfl, hZ, hh, hI⟩ := hP
  have hx := Bd.exec
  have hby := Bd.bytes
  have hml : c.maxLocals = 2 := hml0
  have hown : s.vm.findClass "com/example/task_relay/taskrelay/Scope" = some m.cls := findClass_of_methodNamed Bd.named
  have hnm := (name_of_methodNamed Bd.named Bd.method).1
  have X0 : Stand p l e ({ frames := 0, cells := 0, slots := 0, locals := 0 } : Room) s m #[(.ref wF), (.ref o1)] below meth c s₁ [] 0 0 := Stand.of_body Bd
  have e0 : s₁.heap = h0 := by rw [← hh, Bd.state]; rfl
  have N0 := Fr.nil h0.size
  have pre0 : ∀ t, Steps p.tables e below (s₁.setTop (mkF m 0 #[.val (.ref wF), .val (.ref o1)] [])) t → Steps p.tables e below (s₁.setTop (entryFrame m #[(.ref wF), (.ref o1)] 2)) t := fun t k => castTop (ef_rmaf1 m o1) k
  have KC0 : Keep h0 h0 [] := Keep.refl _ _
  have hS0 : s.Since s.vm h0.size := (State.WarmedH.refl s).since _
  obtain ⟨T47, X47, e47, st47⟩ := getS2 X0 hx hZ hown (host := "") (Or.inl (hw _ (List.mem_of_getElem? (i := 20) rfl))) Via.refl e0 H0 (g := (mkF m 1 #[.val (.ref wF), .val (.ref o1)] [(.ref wF)])) rfl (hb hby d2_1)
  have z48 := congrArg Array.size e47
  obtain ⟨fs, hr, hrun, hended, rE1, rE2, rE3, rE4⟩ := leaveW (s := s) (vm₁ := s.vm) X47 hS0 (by omega : h0.size ≤ T47.heap.size) (v := some (.int (1 : Int32))) (fun h => by rw [Bd.returns] at h; cases h)
  refine ⟨_, _, pre0 _ ?_, hrun, hended, _, _, rfl, ?_, rE1, rE2, rE3, rE4.mono (by decide) (by decide)⟩
  · show Steps p.tables e below (s₁.setTop (mkF m 0 #[.val (.ref wF), .val (.ref o1)] [])) _
    refine XS.aloadN X0.here hx rfl (hb hby d2_0) rfl rfl ?_
    show Steps p.tables e below (s₁.setTop (mkF m 1 #[.val (.ref wF), .val (.ref o1)] [(.ref wF)])) _
    refine st47 _ ?_
    show Steps p.tables e below (T47.setTop (mkF m 4 #[.val (.ref wF), .val (.ref o1)] [(.ref wF), (.ref wF)])) _
    refine Jvm.RoadKit.acmp (g := (mkF m 4 #[.val (.ref wF), .val (.ref o1)] [(.ref wF), (.ref wF)])) X47 hx rfl rfl rfl (pc0 := 4) (pc' := 25) (same := true) rfl (hb hby d2_4) rfl (decide_eq_true rfl) (by decide) (by decide) ?_
    show Steps p.tables e below (T47.setTop (mkF m 25 #[.val (.ref wF), .val (.ref o1)] [])) _
    refine XS.iconst X47.here hx rfl (hb hby d2_25) ?_
    show Steps p.tables e below (T47.setTop (mkF m 26 #[.val (.ref wF), .val (.ref o1)] [(.int (1 : Int32))])) _
    refine XS.goto X47.here hx rfl (pc0 := 26) (pc' := 30) rfl (hb hby d2_26) (by decide) (by decide) ?_
    show Steps p.tables e below (T47.setTop (mkF m 30 #[.val (.ref wF), .val (.ref o1)] [(.int (1 : Int32))])) _
    exact retN X47 hx (t := .boolean) Bd.returns (by simp) (hb hby d2_30) hr
  · show Qrmaf1 Z o1 wF G1 h0 n0 _ T47.heap _
    rw [e47]
    exact ⟨rfl, (fun y hy => Nat.le_trans Z0 (N0 y hy)), KC0⟩
theorem ef_rmar1 (m : MethodId) (o0 : Addr) (o1 : Addr) : entryFrame m #[(.ref o0), (.ref o1)] 2 = mkF m 0 #[.val (.ref o0), .val (.ref o1)] [] := by first | (simp [entryFrame, mkF, argsToLocals, Value.category]; done) | rfl
def Qrmar1 (Z : State) (o0 : Addr) (o1 : Addr) (wF : Addr) (G1 : Int32) (bv : Addr) (kb : ClassId) (c0 : Int32) (h0 : Heap) (n0 : Nat) (v : Option Value) (h : Heap) (L : List Loc) : Prop := v = some (.int (0 : Int32)) ∧ Fr n0 L ∧ Keep h0 h []
set_option maxRecDepth 65536 in
set_option maxHeartbeats 40000000 in
theorem rmar1 (l : Launch) (Z : State) (a0 : Array Value) (hw : ∀ d ∈ tables_1, d.before a0 Z = true) (ws : List Jvm.Cond) (o0 : Addr) (o1 : Addr) (wF : Addr) (G1 : Int32) (bv : Addr) (kb : ClassId) (c0 : Int32) (h0 : Heap) (n0 : Nat) (Z0 : n0 ≤ h0.size) (H0 : Sta Z h0 "com/example/task_relay/taskrelay/Scope" "FULL" "Lcom/example/task_relay/taskrelay/Scope;" (.ref wF)) (H1 : Sta Z h0 "java/lang/String" "COMPACT_STRINGS" "Z" (.int G1)) (hG1 : ¬ (G1 = (0 : Int32))) (hh58 : Jvm.Lit.constHeld Z "com/example/task_relay/taskrelay/Scope" 58) (hh60 : Jvm.Lit.constHeld Z "com/example/task_relay/taskrelay/Scope" 60) (X00 : Ext Z.heap h0) (hcw : Jvm.Lit.compactW.before a0 Z = true) (hne : ¬ (o0 = wF)) (H8 : Exa Z h0 o1 "java/lang/String") (H9 : Fld Z h0 o1 "java/lang/String" "coder" "B" (.int (0 : Int32))) (H10 : Fld Z h0 o1 "java/lang/String" "value" "[B" (.ref bv)) (H11 : Arv Z h0 bv kb .byte (1 : Int32) [(.int (c0).toInt8.toInt32)] (.int (0 : Int32))) (hb0 : ¬ (c0 < 0) ∧ ¬ ((255 : Int32) < c0)) :
    MetFree l (⟨"com/example/task_relay/taskrelay/Scope", "allows", "(Ljava/lang/String;)Z"⟩ : MethodName) (head1 (Jvm.Cond.code (⟨"com/example/task_relay/taskrelay/Scope", "allows", "(Ljava/lang/String;)Z"⟩ : MethodName) prog_36_method_5_code 2 (some .boolean) :: ws) ({ frames := 2, cells := 4, slots := 36, locals := 28 } : Room)) (fun a U => a = #[(.ref o0), (.ref o1)] ∧ Z.Warmed39 U.vm ∧ U.heap = h0 ∧ IB Z U.vm []) (fun _ _ _ _ _ => True) (fun _ U o U' => ∃ v L, o = .returned v ∧ Qrmar1 Z o0 o1 wF G1 bv kb c0 h0 n0 v U'.heap L ∧ ReturnedEndW U o U' L ({ frames := 2, cells := 4, slots := 36, locals := 28 } : Room).cells ({ frames := 2, cells := 4, slots := 36, locals := 28 } : Room).slots) := by
  refine MetFree.of_bodySF (plainFor_of_name pn_2) hisR ?_
  intro p e s m args below meth c s₁ Bd hml0 hP hK
  obtain ⟨rfl, hZ, hh, hI⟩ := hP
  have hx := Bd.exec
  have hby := Bd.bytes
  have hml : c.maxLocals = 2 := hml0
  have hown : s.vm.findClass "com/example/task_relay/taskrelay/Scope" = some m.cls := findClass_of_methodNamed Bd.named
  have hnm := (name_of_methodNamed Bd.named Bd.method).1
  have X0 : Stand p l e ({ frames := 2, cells := 4, slots := 36, locals := 28 } : Room) s m #[(.ref o0), (.ref o1)] below meth c s₁ [] 0 0 := Stand.of_body Bd
  have e0 : s₁.heap = h0 := by rw [← hh, Bd.state]; rfl
  have N0 := Fr.nil h0.size
  have pre0 : ∀ t, Steps p.tables e below (s₁.setTop (mkF m 0 #[.val (.ref o0), .val (.ref o1)] [])) t → Steps p.tables e below (s₁.setTop (entryFrame m #[(.ref o0), (.ref o1)] 2)) t := fun t k => castTop (ef_rmar1 m o0 o1) k
  have z49 : @LT.lt Nat _ o1 (Array.size h0) := H8.lt
  have z50 : @LT.lt Nat _ o1 (Array.size h0) := H9.lt
  have z51 : @LT.lt Nat _ o1 (Array.size h0) := H10.lt
  have z52 : @LT.lt Nat _ bv (Array.size h0) := H11.lt
  have KC0 : Keep h0 h0 [] := Keep.refl _ _
  have hS0 : s.Since s.vm h0.size := (State.WarmedH.refl s).since _
  obtain ⟨T53, X53, e53, st53⟩ := getS2 X0 hx hZ hown (host := "") (Or.inl (hw _ (List.mem_of_getElem? (i := 20) rfl))) Via.refl e0 H0 (g := (mkF m 1 #[.val (.ref o0), .val (.ref o1)] [(.ref o0)])) rfl (hb hby d2_1)
  obtain ⟨a54, T54, h54, k54, bv54, kb54, X54, e54, E54, hS54, z54k, hZ54, hw54, PE54, PC54, PV54, PA54, z54a, z54b, hI54, Lt54, st54⟩ := ldcSVL (s := s) (vm0 := s.vm) X53 hx hZ hown (hw _ (List.mem_of_getElem? (i := 22) rfl)) (fun d hd => hw d (own_sa d hd)) e53 hS0 (by omega) (by rw [hh]; exact N0) (fun b cl q => by rw [hh]; exact X00.2 b cl q) hI (by decide) hh58 hcw (vs := [(.int (71 : Int32)), (.int (69 : Int32)), (.int (84 : Int32))]) (z := (3 : Int32)) ⟨by decide, rfl⟩ (by decide) rfl (g := (mkF m 8 #[.val (.ref o0), .val (.ref o1)] [(.ref o1)])) rfl (hb hby d2_8) (n := 12) (by decide) (by decide) (by decide) (by decide)
  have z55 := E54.1
  have KC56 : Keep h0 h54 [] := KC0.ext E54
  have z57 : @LT.lt Nat _ a54 (Array.size h54) := PE54.lt
  have z58 : @LT.lt Nat _ bv54 (Array.size h54) := PA54.lt
  have Fc61 := (H8.ext E54)
  have Fc62 := (H10.ext E54)
  have Fc63 := (H9.ext E54)
  have Fc64 := (H11.ext E54)
  have hp60 : ∀ c ∈ ([c0] : List Int32), ¬ c < 0 ∧ ¬ (255 : Int32) < c := by
    intro c hc
    simp only [List.mem_cons, List.not_mem_nil, or_false] at hc
    subst hc
    exact hb0
  have hcd60 : StrChars.Road.CodA ([c0] : List Int32) 0 (1 : Int32) [(.int (c0).toInt8.toInt32)] := StrChars.Road.codOf (n := 1) rfl (fun c hc => (hp60 c hc).2)
  have hp65 : ∀ c ∈ ([(71 : Int32), (69 : Int32), (84 : Int32)] : List Int32), ¬ c < 0 ∧ ¬ (255 : Int32) < c := by
    decide
  have hcd65 : StrChars.Road.CodA ([(71 : Int32), (69 : Int32), (84 : Int32)] : List Int32) 0 (3 : Int32) [(.int (71 : Int32)), (.int (69 : Int32)), (.int (84 : Int32))] := StrChars.Road.codOf (n := 3) rfl (fun c hc => (hp65 c hc).2)
  have Fc66 := (H1.ext E54)
  obtain ⟨cq59, kq59, qa59, qb59, qc59⟩ := isOf hZ54 e54 Fc61
  obtain ⟨v59, _, ⟨T59, L59, k59, n59⟩, -, X59, ⟨Lc59, hQ59, l59, y59, z59⟩, st59⟩ := X54.virtualBack hx (y := (⟨"java/lang/String", "equals", "(Ljava/lang/Object;)Z"⟩ : MethodName)) (z := (⟨"java/lang/String", "equals", "(Ljava/lang/Object;)Z"⟩ : MethodName)) hw54 (mvT hZ54 (hw _ (List.mem_of_getElem? (i := 23) rfl))) (mvT hZ54 (hw _ (List.mem_of_getElem? (i := 24) rfl))) (notFace_of_selects (args := #[]) (mvT hZ54 (hw _ (List.mem_of_getElem? (i := 26) rfl)))) (mvT hZ54 (hw _ (List.mem_of_getElem? (i := 26) rfl))) (mvT hZ54 (hw _ (List.mem_of_getElem? (i := 25) rfl))) (by decide) (StrChars.Road.eqW (W := 0) hZ54 (fun d hd => hw d (own_weq d hd)) (kI := 4) (hw _ (List.mem_of_getElem? (i := 6) rfl)) Fc61 Fc62 Fc63 Fc64 hcd60 (own_up _ hp60) (Nat.le_of_ble_eq_true rfl) PE54 PV54 PC54 PA54 hcd65 (own_up _ hp65) (Nat.le_of_ble_eq_true rfl) Fc66 hG1 (by decide) (by decide)) qa59 qc59 (g := (mkF m 10 #[.val (.ref o0), .val (.ref o1)] [(.ref a54), (.ref o1)])) rfl (by rw [hml]; rfl) (Steps.refl _) (argsL := [(.ref a54)]) (rest := []) (lenOf pd_0 rfl) rfl (by show 2 * 0 + _ ≤ _; exact Nat.le_of_eq rfl) (hb hby d2_10) (fun _ _ => ⟨rfl, e54, (by decide : 2 + 0 ≤ _), (by decide : 16 + 0 ≤ _)⟩)
  dsimp only [Pt.U, Pt.locs, Pt.cells, Pt.slots] at X59 l59 y59 z59 st59 hQ59
  subst l59 y59 z59
  obtain ⟨hv59, rfl, e59⟩ := hQ59
  have N59 := Fr.app N0 (Fr.nil h0.size)
  rcases hv59 with ⟨rfl, hd59⟩ | ⟨rfl, hd59⟩
  · simp at hd59
  · obtain ⟨a67, T67, h67, k67, bv67, kb67, X67, e67, E67, hS67, z67k, hZ67, hw67, PE67, PC67, PV67, PA67, z67a, z67b, hI67, Lt67, st67⟩ := ldcSVL (s := s) (vm0 := T54.vm) X59 hx hZ54 hw54 (hw _ (List.mem_of_getElem? (i := 37) rfl)) (fun d hd => hw d (own_sa d hd)) e59 hS54 (by omega) (by rw [hh]; exact N59) (fun b cl q => by rw [hh]; exact X00.2 b cl q) hI54 (by decide) hh60 hcw (vs := [(.int (72 : Int32)), (.int (69 : Int32)), (.int (65 : Int32)), (.int (68 : Int32))]) (z := (4 : Int32)) ⟨by decide, rfl⟩ (by decide) rfl (g := (mkF m 17 #[.val (.ref o0), .val (.ref o1)] [(.ref o1)])) rfl (hb hby d2_17) (n := 16) (by decide) (by decide) (by decide) (by decide)
    have z68 := E67.1
    have KC69 : Keep h0 h67 [] := KC56.ext E67
    have z70 : @LT.lt Nat _ a67 (Array.size h67) := PE67.lt
    have z71 : @LT.lt Nat _ bv67 (Array.size h67) := PA67.lt
    have Fc74 := (Fc61.ext E67)
    have Fc75 := (Fc62.ext E67)
    have Fc76 := (Fc63.ext E67)
    have Fc77 := (Fc64.ext E67)
    have hp73 : ∀ c ∈ ([c0] : List Int32), ¬ c < 0 ∧ ¬ (255 : Int32) < c := by
      intro c hc
      simp only [List.mem_cons, List.not_mem_nil, or_false] at hc
      subst hc
      exact hb0
    have hcd73 : StrChars.Road.CodA ([c0] : List Int32) 0 (1 : Int32) [(.int (c0).toInt8.toInt32)] := StrChars.Road.codOf (n := 1) rfl (fun c hc => (hp73 c hc).2)
    have hp78 : ∀ c ∈ ([(72 : Int32), (69 : Int32), (65 : Int32), (68 : Int32)] : List Int32), ¬ c < 0 ∧ ¬ (255 : Int32) < c := by
      decide
    have hcd78 : StrChars.Road.CodA ([(72 : Int32), (69 : Int32), (65 : Int32), (68 : Int32)] : List Int32) 0 (4 : Int32) [(.int (72 : Int32)), (.int (69 : Int32)), (.int (65 : Int32)), (.int (68 : Int32))] := StrChars.Road.codOf (n := 4) rfl (fun c hc => (hp78 c hc).2)
    have Fc79 := (Fc66.ext E67)
    obtain ⟨cq72, kq72, qa72, qb72, qc72⟩ := isOf hZ67 e67 Fc74
    obtain ⟨v72, _, ⟨T72, L72, k72, n72⟩, -, X72, ⟨Lc72, hQ72, l72, y72, z72⟩, st72⟩ := X67.virtualBack hx (y := (⟨"java/lang/String", "equals", "(Ljava/lang/Object;)Z"⟩ : MethodName)) (z := (⟨"java/lang/String", "equals", "(Ljava/lang/Object;)Z"⟩ : MethodName)) hw67 (mvT hZ67 (hw _ (List.mem_of_getElem? (i := 23) rfl))) (mvT hZ67 (hw _ (List.mem_of_getElem? (i := 24) rfl))) (notFace_of_selects (args := #[]) (mvT hZ67 (hw _ (List.mem_of_getElem? (i := 26) rfl)))) (mvT hZ67 (hw _ (List.mem_of_getElem? (i := 26) rfl))) (mvT hZ67 (hw _ (List.mem_of_getElem? (i := 25) rfl))) (by decide) (StrChars.Road.eqW (W := 0) hZ67 (fun d hd => hw d (own_weq d hd)) (kI := 4) (hw _ (List.mem_of_getElem? (i := 6) rfl)) Fc74 Fc75 Fc76 Fc77 hcd73 (own_up _ hp73) (Nat.le_of_ble_eq_true rfl) PE67 PV67 PC67 PA67 hcd78 (own_up _ hp78) (Nat.le_of_ble_eq_true rfl) Fc79 hG1 (by decide) (by decide)) qa72 qc72 (g := (mkF m 19 #[.val (.ref o0), .val (.ref o1)] [(.ref a67), (.ref o1)])) rfl (by rw [hml]; rfl) (Steps.refl _) (argsL := [(.ref a67)]) (rest := []) (lenOf pd_0 rfl) rfl (by show 2 * 0 + _ ≤ _; exact Nat.le_of_eq rfl) (hb hby d2_19) (fun _ _ => ⟨rfl, e67, (by decide : 4 + 0 ≤ _), (by decide : 36 + 0 ≤ _)⟩)
    dsimp only [Pt.U, Pt.locs, Pt.cells, Pt.slots] at X72 l72 y72 z72 st72 hQ72
    subst l72 y72 z72
    obtain ⟨hv72, rfl, e72⟩ := hQ72
    have N72 := Fr.app N59 (Fr.nil h0.size)
    rcases hv72 with ⟨rfl, hd72⟩ | ⟨rfl, hd72⟩
    · simp at hd72
    · have z80 := congrArg Array.size e72
      obtain ⟨fs, hr, hrun, hended, rE1, rE2, rE3, rE4⟩ := leaveW (s := s) (vm₁ := T67.vm) X72 hS67 (by omega : k67 ≤ T72.heap.size) (v := some (.int (0 : Int32))) (fun h => by rw [Bd.returns] at h; cases h)
      refine ⟨_, _, pre0 _ ?_, hrun, hended, _, _, rfl, ?_, rE1, rE2, rE3, rE4.mono (by decide) (by decide)⟩
      · show Steps p.tables e below (s₁.setTop (mkF m 0 #[.val (.ref o0), .val (.ref o1)] [])) _
        refine XS.aloadN X0.here hx rfl (hb hby d2_0) rfl rfl ?_
        show Steps p.tables e below (s₁.setTop (mkF m 1 #[.val (.ref o0), .val (.ref o1)] [(.ref o0)])) _
        refine st53 _ ?_
        show Steps p.tables e below (T53.setTop (mkF m 4 #[.val (.ref o0), .val (.ref o1)] [(.ref wF), (.ref o0)])) _
        refine Jvm.RoadKit.acmp (g := (mkF m 4 #[.val (.ref o0), .val (.ref o1)] [(.ref wF), (.ref o0)])) X53 hx rfl rfl rfl (pc0 := 4) (pc' := 7) (same := false) rfl (hb hby d2_4) rfl (decide_eq_false fun k => hne (Value.ref.inj k)) (by decide) (by decide) ?_
        show Steps p.tables e below (T53.setTop (mkF m 7 #[.val (.ref o0), .val (.ref o1)] [])) _
        refine XS.aloadN X53.here hx rfl (hb hby d2_7) rfl rfl ?_
        show Steps p.tables e below (T53.setTop (mkF m 8 #[.val (.ref o0), .val (.ref o1)] [(.ref o1)])) _
        refine st54 _ ?_
        show Steps p.tables e below (T54.setTop (mkF m 10 #[.val (.ref o0), .val (.ref o1)] [(.ref a54), (.ref o1)])) _
        refine st59.trans ?_
        show Steps p.tables e below (T59.setTop (mkF m 13 #[.val (.ref o0), .val (.ref o1)] [(.int (0 : Int32))])) _
        refine XS.ifNo X59.here hx rfl (hb hby d2_13) rfl ((if0 _ _).trans (teq (by decide : (0 : Int32) = (0 : Int32))).2) ?_
        show Steps p.tables e below (T59.setTop (mkF m 16 #[.val (.ref o0), .val (.ref o1)] [])) _
        refine XS.aloadN X59.here hx rfl (hb hby d2_16) rfl rfl ?_
        show Steps p.tables e below (T59.setTop (mkF m 17 #[.val (.ref o0), .val (.ref o1)] [(.ref o1)])) _
        refine st67 _ ?_
        show Steps p.tables e below (T67.setTop (mkF m 19 #[.val (.ref o0), .val (.ref o1)] [(.ref a67), (.ref o1)])) _
        refine st72.trans ?_
        show Steps p.tables e below (T72.setTop (mkF m 22 #[.val (.ref o0), .val (.ref o1)] [(.int (0 : Int32))])) _
        refine XS.ifYes X72.here hx rfl (pc0 := 22) (pc' := 29) rfl (hb hby d2_22) rfl ((if0 _ _).trans (teq (by decide : (0 : Int32) = (0 : Int32))).1) (by decide) (by decide) ?_
        show Steps p.tables e below (T72.setTop (mkF m 29 #[.val (.ref o0), .val (.ref o1)] [])) _
        refine XS.iconst X72.here hx rfl (hb hby d2_29) ?_
        show Steps p.tables e below (T72.setTop (mkF m 30 #[.val (.ref o0), .val (.ref o1)] [(.int (0 : Int32))])) _
        exact retN X72 hx (t := .boolean) Bd.returns (by simp) (hb hby d2_30) hr
      · show Qrmar1 Z o0 o1 wF G1 bv kb c0 h0 n0 _ T72.heap _
        rw [e72]
        exact ⟨rfl, (fun y hy => Nat.le_trans Z0 (N72 y hy)), KC69⟩
theorem ef_rmar2 (m : MethodId) (o0 : Addr) (o1 : Addr) : entryFrame m #[(.ref o0), (.ref o1)] 2 = mkF m 0 #[.val (.ref o0), .val (.ref o1)] [] := by first | (simp [entryFrame, mkF, argsToLocals, Value.category]; done) | rfl
def Qrmar2 (Z : State) (o0 : Addr) (o1 : Addr) (wF : Addr) (G1 : Int32) (bv : Addr) (kb : ClassId) (c0 : Int32) (c1 : Int32) (h0 : Heap) (n0 : Nat) (v : Option Value) (h : Heap) (L : List Loc) : Prop := v = some (.int (0 : Int32)) ∧ Fr n0 L ∧ Keep h0 h []
set_option maxRecDepth 65536 in
set_option maxHeartbeats 40000000 in
theorem rmar2 (l : Launch) (Z : State) (a0 : Array Value) (hw : ∀ d ∈ tables_1, d.before a0 Z = true) (ws : List Jvm.Cond) (o0 : Addr) (o1 : Addr) (wF : Addr) (G1 : Int32) (bv : Addr) (kb : ClassId) (c0 : Int32) (c1 : Int32) (h0 : Heap) (n0 : Nat) (Z0 : n0 ≤ h0.size) (H0 : Sta Z h0 "com/example/task_relay/taskrelay/Scope" "FULL" "Lcom/example/task_relay/taskrelay/Scope;" (.ref wF)) (H1 : Sta Z h0 "java/lang/String" "COMPACT_STRINGS" "Z" (.int G1)) (hG1 : ¬ (G1 = (0 : Int32))) (hh58 : Jvm.Lit.constHeld Z "com/example/task_relay/taskrelay/Scope" 58) (hh60 : Jvm.Lit.constHeld Z "com/example/task_relay/taskrelay/Scope" 60) (X00 : Ext Z.heap h0) (hcw : Jvm.Lit.compactW.before a0 Z = true) (hne : ¬ (o0 = wF)) (H8 : Exa Z h0 o1 "java/lang/String") (H9 : Fld Z h0 o1 "java/lang/String" "coder" "B" (.int (0 : Int32))) (H10 : Fld Z h0 o1 "java/lang/String" "value" "[B" (.ref bv)) (H11 : Arv Z h0 bv kb .byte (2 : Int32) [(.int (c0).toInt8.toInt32), (.int (c1).toInt8.toInt32)] (.int (0 : Int32))) (hb0 : ¬ (c0 < 0) ∧ ¬ ((255 : Int32) < c0)) (hb1 : ¬ (c1 < 0) ∧ ¬ ((255 : Int32) < c1)) :
    MetFree l (⟨"com/example/task_relay/taskrelay/Scope", "allows", "(Ljava/lang/String;)Z"⟩ : MethodName) (head1 (Jvm.Cond.code (⟨"com/example/task_relay/taskrelay/Scope", "allows", "(Ljava/lang/String;)Z"⟩ : MethodName) prog_36_method_5_code 2 (some .boolean) :: ws) ({ frames := 2, cells := 4, slots := 36, locals := 28 } : Room)) (fun a U => a = #[(.ref o0), (.ref o1)] ∧ Z.Warmed39 U.vm ∧ U.heap = h0 ∧ IB Z U.vm []) (fun _ _ _ _ _ => True) (fun _ U o U' => ∃ v L, o = .returned v ∧ Qrmar2 Z o0 o1 wF G1 bv kb c0 c1 h0 n0 v U'.heap L ∧ ReturnedEndW U o U' L ({ frames := 2, cells := 4, slots := 36, locals := 28 } : Room).cells ({ frames := 2, cells := 4, slots := 36, locals := 28 } : Room).slots) := by
  refine MetFree.of_bodySF (plainFor_of_name pn_2) hisR ?_
  intro p e s m args below meth c s₁ Bd hml0 hP hK
  obtain ⟨rfl, hZ, hh, hI⟩ := hP
  have hx := Bd.exec
  have hby := Bd.bytes
  have hml : c.maxLocals = 2 := hml0
  have hown : s.vm.findClass "com/example/task_relay/taskrelay/Scope" = some m.cls := findClass_of_methodNamed Bd.named
  have hnm := (name_of_methodNamed Bd.named Bd.method).1
  have X0 : Stand p l e ({ frames := 2, cells := 4, slots := 36, locals := 28 } : Room) s m #[(.ref o0), (.ref o1)] below meth c s₁ [] 0 0 := Stand.of_body Bd
  have e0 : s₁.heap = h0 := by rw [← hh, Bd.state]; rfl
  have N0 := Fr.nil h0.size
  have pre0 : ∀ t, Steps p.tables e below (s₁.setTop (mkF m 0 #[.val (.ref o0), .val (.ref o1)] [])) t → Steps p.tables e below (s₁.setTop (entryFrame m #[(.ref o0), (.ref o1)] 2)) t := fun t k => castTop (ef_rmar2 m o0 o1) k
  have z81 : @LT.lt Nat _ o1 (Array.size h0) := H8.lt
  have z82 : @LT.lt Nat _ o1 (Array.size h0) := H9.lt
  have z83 : @LT.lt Nat _ o1 (Array.size h0) := H10.lt
  have z84 : @LT.lt Nat _ bv (Array.size h0) := H11.lt
  have KC0 : Keep h0 h0 [] := Keep.refl _ _
  have hS0 : s.Since s.vm h0.size := (State.WarmedH.refl s).since _
  obtain ⟨T85, X85, e85, st85⟩ := getS2 X0 hx hZ hown (host := "") (Or.inl (hw _ (List.mem_of_getElem? (i := 20) rfl))) Via.refl e0 H0 (g := (mkF m 1 #[.val (.ref o0), .val (.ref o1)] [(.ref o0)])) rfl (hb hby d2_1)
  obtain ⟨a86, T86, h86, k86, bv86, kb86, X86, e86, E86, hS86, z86k, hZ86, hw86, PE86, PC86, PV86, PA86, z86a, z86b, hI86, Lt86, st86⟩ := ldcSVL (s := s) (vm0 := s.vm) X85 hx hZ hown (hw _ (List.mem_of_getElem? (i := 22) rfl)) (fun d hd => hw d (own_sa d hd)) e85 hS0 (by omega) (by rw [hh]; exact N0) (fun b cl q => by rw [hh]; exact X00.2 b cl q) hI (by decide) hh58 hcw (vs := [(.int (71 : Int32)), (.int (69 : Int32)), (.int (84 : Int32))]) (z := (3 : Int32)) ⟨by decide, rfl⟩ (by decide) rfl (g := (mkF m 8 #[.val (.ref o0), .val (.ref o1)] [(.ref o1)])) rfl (hb hby d2_8) (n := 12) (by decide) (by decide) (by decide) (by decide)
  have z87 := E86.1
  have KC88 : Keep h0 h86 [] := KC0.ext E86
  have z89 : @LT.lt Nat _ a86 (Array.size h86) := PE86.lt
  have z90 : @LT.lt Nat _ bv86 (Array.size h86) := PA86.lt
  have Fc93 := (H8.ext E86)
  have Fc94 := (H10.ext E86)
  have Fc95 := (H9.ext E86)
  have Fc96 := (H11.ext E86)
  have hp92 : ∀ c ∈ ([c0, c1] : List Int32), ¬ c < 0 ∧ ¬ (255 : Int32) < c := by
    intro c hc
    simp only [List.mem_cons, List.not_mem_nil, or_false] at hc
    rcases hc with rfl | rfl
    · exact hb0
    · exact hb1
  have hcd92 : StrChars.Road.CodA ([c0, c1] : List Int32) 0 (2 : Int32) [(.int (c0).toInt8.toInt32), (.int (c1).toInt8.toInt32)] := StrChars.Road.codOf (n := 2) rfl (fun c hc => (hp92 c hc).2)
  have hp97 : ∀ c ∈ ([(71 : Int32), (69 : Int32), (84 : Int32)] : List Int32), ¬ c < 0 ∧ ¬ (255 : Int32) < c := by
    decide
  have hcd97 : StrChars.Road.CodA ([(71 : Int32), (69 : Int32), (84 : Int32)] : List Int32) 0 (3 : Int32) [(.int (71 : Int32)), (.int (69 : Int32)), (.int (84 : Int32))] := StrChars.Road.codOf (n := 3) rfl (fun c hc => (hp97 c hc).2)
  have Fc98 := (H1.ext E86)
  obtain ⟨cq91, kq91, qa91, qb91, qc91⟩ := isOf hZ86 e86 Fc93
  obtain ⟨v91, _, ⟨T91, L91, k91, n91⟩, -, X91, ⟨Lc91, hQ91, l91, y91, z91⟩, st91⟩ := X86.virtualBack hx (y := (⟨"java/lang/String", "equals", "(Ljava/lang/Object;)Z"⟩ : MethodName)) (z := (⟨"java/lang/String", "equals", "(Ljava/lang/Object;)Z"⟩ : MethodName)) hw86 (mvT hZ86 (hw _ (List.mem_of_getElem? (i := 23) rfl))) (mvT hZ86 (hw _ (List.mem_of_getElem? (i := 24) rfl))) (notFace_of_selects (args := #[]) (mvT hZ86 (hw _ (List.mem_of_getElem? (i := 26) rfl)))) (mvT hZ86 (hw _ (List.mem_of_getElem? (i := 26) rfl))) (mvT hZ86 (hw _ (List.mem_of_getElem? (i := 25) rfl))) (by decide) (StrChars.Road.eqW (W := 0) hZ86 (fun d hd => hw d (own_weq d hd)) (kI := 4) (hw _ (List.mem_of_getElem? (i := 6) rfl)) Fc93 Fc94 Fc95 Fc96 hcd92 (own_up _ hp92) (Nat.le_of_ble_eq_true rfl) PE86 PV86 PC86 PA86 hcd97 (own_up _ hp97) (Nat.le_of_ble_eq_true rfl) Fc98 hG1 (by decide) (by decide)) qa91 qc91 (g := (mkF m 10 #[.val (.ref o0), .val (.ref o1)] [(.ref a86), (.ref o1)])) rfl (by rw [hml]; rfl) (Steps.refl _) (argsL := [(.ref a86)]) (rest := []) (lenOf pd_0 rfl) rfl (by show 2 * 0 + _ ≤ _; exact Nat.le_of_eq rfl) (hb hby d2_10) (fun _ _ => ⟨rfl, e86, (by decide : 2 + 0 ≤ _), (by decide : 16 + 0 ≤ _)⟩)
  dsimp only [Pt.U, Pt.locs, Pt.cells, Pt.slots] at X91 l91 y91 z91 st91 hQ91
  subst l91 y91 z91
  obtain ⟨hv91, rfl, e91⟩ := hQ91
  have N91 := Fr.app N0 (Fr.nil h0.size)
  rcases hv91 with ⟨rfl, hd91⟩ | ⟨rfl, hd91⟩
  · simp at hd91
  · obtain ⟨a99, T99, h99, k99, bv99, kb99, X99, e99, E99, hS99, z99k, hZ99, hw99, PE99, PC99, PV99, PA99, z99a, z99b, hI99, Lt99, st99⟩ := ldcSVL (s := s) (vm0 := T86.vm) X91 hx hZ86 hw86 (hw _ (List.mem_of_getElem? (i := 37) rfl)) (fun d hd => hw d (own_sa d hd)) e91 hS86 (by omega) (by rw [hh]; exact N91) (fun b cl q => by rw [hh]; exact X00.2 b cl q) hI86 (by decide) hh60 hcw (vs := [(.int (72 : Int32)), (.int (69 : Int32)), (.int (65 : Int32)), (.int (68 : Int32))]) (z := (4 : Int32)) ⟨by decide, rfl⟩ (by decide) rfl (g := (mkF m 17 #[.val (.ref o0), .val (.ref o1)] [(.ref o1)])) rfl (hb hby d2_17) (n := 16) (by decide) (by decide) (by decide) (by decide)
    have z100 := E99.1
    have KC101 : Keep h0 h99 [] := KC88.ext E99
    have z102 : @LT.lt Nat _ a99 (Array.size h99) := PE99.lt
    have z103 : @LT.lt Nat _ bv99 (Array.size h99) := PA99.lt
    have Fc106 := (Fc93.ext E99)
    have Fc107 := (Fc94.ext E99)
    have Fc108 := (Fc95.ext E99)
    have Fc109 := (Fc96.ext E99)
    have hp105 : ∀ c ∈ ([c0, c1] : List Int32), ¬ c < 0 ∧ ¬ (255 : Int32) < c := by
      intro c hc
      simp only [List.mem_cons, List.not_mem_nil, or_false] at hc
      rcases hc with rfl | rfl
      · exact hb0
      · exact hb1
    have hcd105 : StrChars.Road.CodA ([c0, c1] : List Int32) 0 (2 : Int32) [(.int (c0).toInt8.toInt32), (.int (c1).toInt8.toInt32)] := StrChars.Road.codOf (n := 2) rfl (fun c hc => (hp105 c hc).2)
    have hp110 : ∀ c ∈ ([(72 : Int32), (69 : Int32), (65 : Int32), (68 : Int32)] : List Int32), ¬ c < 0 ∧ ¬ (255 : Int32) < c := by
      decide
    have hcd110 : StrChars.Road.CodA ([(72 : Int32), (69 : Int32), (65 : Int32), (68 : Int32)] : List Int32) 0 (4 : Int32) [(.int (72 : Int32)), (.int (69 : Int32)), (.int (65 : Int32)), (.int (68 : Int32))] := StrChars.Road.codOf (n := 4) rfl (fun c hc => (hp110 c hc).2)
    have Fc111 := (Fc98.ext E99)
    obtain ⟨cq104, kq104, qa104, qb104, qc104⟩ := isOf hZ99 e99 Fc106
    obtain ⟨v104, _, ⟨T104, L104, k104, n104⟩, -, X104, ⟨Lc104, hQ104, l104, y104, z104⟩, st104⟩ := X99.virtualBack hx (y := (⟨"java/lang/String", "equals", "(Ljava/lang/Object;)Z"⟩ : MethodName)) (z := (⟨"java/lang/String", "equals", "(Ljava/lang/Object;)Z"⟩ : MethodName)) hw99 (mvT hZ99 (hw _ (List.mem_of_getElem? (i := 23) rfl))) (mvT hZ99 (hw _ (List.mem_of_getElem? (i := 24) rfl))) (notFace_of_selects (args := #[]) (mvT hZ99 (hw _ (List.mem_of_getElem? (i := 26) rfl)))) (mvT hZ99 (hw _ (List.mem_of_getElem? (i := 26) rfl))) (mvT hZ99 (hw _ (List.mem_of_getElem? (i := 25) rfl))) (by decide) (StrChars.Road.eqW (W := 0) hZ99 (fun d hd => hw d (own_weq d hd)) (kI := 4) (hw _ (List.mem_of_getElem? (i := 6) rfl)) Fc106 Fc107 Fc108 Fc109 hcd105 (own_up _ hp105) (Nat.le_of_ble_eq_true rfl) PE99 PV99 PC99 PA99 hcd110 (own_up _ hp110) (Nat.le_of_ble_eq_true rfl) Fc111 hG1 (by decide) (by decide)) qa104 qc104 (g := (mkF m 19 #[.val (.ref o0), .val (.ref o1)] [(.ref a99), (.ref o1)])) rfl (by rw [hml]; rfl) (Steps.refl _) (argsL := [(.ref a99)]) (rest := []) (lenOf pd_0 rfl) rfl (by show 2 * 0 + _ ≤ _; exact Nat.le_of_eq rfl) (hb hby d2_19) (fun _ _ => ⟨rfl, e99, (by decide : 4 + 0 ≤ _), (by decide : 36 + 0 ≤ _)⟩)
    dsimp only [Pt.U, Pt.locs, Pt.cells, Pt.slots] at X104 l104 y104 z104 st104 hQ104
    subst l104 y104 z104
    obtain ⟨hv104, rfl, e104⟩ := hQ104
    have N104 := Fr.app N91 (Fr.nil h0.size)
    rcases hv104 with ⟨rfl, hd104⟩ | ⟨rfl, hd104⟩
    · simp at hd104
    · have z112 := congrArg Array.size e104
      obtain ⟨fs, hr, hrun, hended, rE1, rE2, rE3, rE4⟩ := leaveW (s := s) (vm₁ := T99.vm) X104 hS99 (by omega : k99 ≤ T104.heap.size) (v := some (.int (0 : Int32))) (fun h => by rw [Bd.returns] at h; cases h)
      refine ⟨_, _, pre0 _ ?_, hrun, hended, _, _, rfl, ?_, rE1, rE2, rE3, rE4.mono (by decide) (by decide)⟩
      · show Steps p.tables e below (s₁.setTop (mkF m 0 #[.val (.ref o0), .val (.ref o1)] [])) _
        refine XS.aloadN X0.here hx rfl (hb hby d2_0) rfl rfl ?_
        show Steps p.tables e below (s₁.setTop (mkF m 1 #[.val (.ref o0), .val (.ref o1)] [(.ref o0)])) _
        refine st85 _ ?_
        show Steps p.tables e below (T85.setTop (mkF m 4 #[.val (.ref o0), .val (.ref o1)] [(.ref wF), (.ref o0)])) _
        refine Jvm.RoadKit.acmp (g := (mkF m 4 #[.val (.ref o0), .val (.ref o1)] [(.ref wF), (.ref o0)])) X85 hx rfl rfl rfl (pc0 := 4) (pc' := 7) (same := false) rfl (hb hby d2_4) rfl (decide_eq_false fun k => hne (Value.ref.inj k)) (by decide) (by decide) ?_
        show Steps p.tables e below (T85.setTop (mkF m 7 #[.val (.ref o0), .val (.ref o1)] [])) _
        refine XS.aloadN X85.here hx rfl (hb hby d2_7) rfl rfl ?_
        show Steps p.tables e below (T85.setTop (mkF m 8 #[.val (.ref o0), .val (.ref o1)] [(.ref o1)])) _
        refine st86 _ ?_
        show Steps p.tables e below (T86.setTop (mkF m 10 #[.val (.ref o0), .val (.ref o1)] [(.ref a86), (.ref o1)])) _
        refine st91.trans ?_
        show Steps p.tables e below (T91.setTop (mkF m 13 #[.val (.ref o0), .val (.ref o1)] [(.int (0 : Int32))])) _
        refine XS.ifNo X91.here hx rfl (hb hby d2_13) rfl ((if0 _ _).trans (teq (by decide : (0 : Int32) = (0 : Int32))).2) ?_
        show Steps p.tables e below (T91.setTop (mkF m 16 #[.val (.ref o0), .val (.ref o1)] [])) _
        refine XS.aloadN X91.here hx rfl (hb hby d2_16) rfl rfl ?_
        show Steps p.tables e below (T91.setTop (mkF m 17 #[.val (.ref o0), .val (.ref o1)] [(.ref o1)])) _
        refine st99 _ ?_
        show Steps p.tables e below (T99.setTop (mkF m 19 #[.val (.ref o0), .val (.ref o1)] [(.ref a99), (.ref o1)])) _
        refine st104.trans ?_
        show Steps p.tables e below (T104.setTop (mkF m 22 #[.val (.ref o0), .val (.ref o1)] [(.int (0 : Int32))])) _
        refine XS.ifYes X104.here hx rfl (pc0 := 22) (pc' := 29) rfl (hb hby d2_22) rfl ((if0 _ _).trans (teq (by decide : (0 : Int32) = (0 : Int32))).1) (by decide) (by decide) ?_
        show Steps p.tables e below (T104.setTop (mkF m 29 #[.val (.ref o0), .val (.ref o1)] [])) _
        refine XS.iconst X104.here hx rfl (hb hby d2_29) ?_
        show Steps p.tables e below (T104.setTop (mkF m 30 #[.val (.ref o0), .val (.ref o1)] [(.int (0 : Int32))])) _
        exact retN X104 hx (t := .boolean) Bd.returns (by simp) (hb hby d2_30) hr
      · show Qrmar2 Z o0 o1 wF G1 bv kb c0 c1 h0 n0 _ T104.heap _
        rw [e104]
        exact ⟨rfl, (fun y hy => Nat.le_trans Z0 (N104 y hy)), KC101⟩
theorem ef_rmar3 (m : MethodId) (o0 : Addr) (o1 : Addr) : entryFrame m #[(.ref o0), (.ref o1)] 2 = mkF m 0 #[.val (.ref o0), .val (.ref o1)] [] := by first | (simp [entryFrame, mkF, argsToLocals, Value.category]; done) | rfl
def Qrmar3 (Z : State) (o0 : Addr) (o1 : Addr) (wF : Addr) (G1 : Int32) (bv : Addr) (kb : ClassId) (c0 : Int32) (c1 : Int32) (c2 : Int32) (h0 : Heap) (n0 : Nat) (v : Option Value) (h : Heap) (L : List Loc) : Prop := v = some (.int (bi (([c0, c1, c2] : List Int32) = ([(71 : Int32), (69 : Int32), (84 : Int32)] : List Int32)))) ∧ Fr n0 L ∧ Keep h0 h []
set_option maxRecDepth 65536 in
set_option maxHeartbeats 40000000 in
theorem rmar3 (l : Launch) (Z : State) (a0 : Array Value) (hw : ∀ d ∈ tables_1, d.before a0 Z = true) (ws : List Jvm.Cond) (o0 : Addr) (o1 : Addr) (wF : Addr) (G1 : Int32) (bv : Addr) (kb : ClassId) (c0 : Int32) (c1 : Int32) (c2 : Int32) (h0 : Heap) (n0 : Nat) (Z0 : n0 ≤ h0.size) (H0 : Sta Z h0 "com/example/task_relay/taskrelay/Scope" "FULL" "Lcom/example/task_relay/taskrelay/Scope;" (.ref wF)) (H1 : Sta Z h0 "java/lang/String" "COMPACT_STRINGS" "Z" (.int G1)) (hG1 : ¬ (G1 = (0 : Int32))) (hh58 : Jvm.Lit.constHeld Z "com/example/task_relay/taskrelay/Scope" 58) (hh60 : Jvm.Lit.constHeld Z "com/example/task_relay/taskrelay/Scope" 60) (X00 : Ext Z.heap h0) (hcw : Jvm.Lit.compactW.before a0 Z = true) (hne : ¬ (o0 = wF)) (H8 : Exa Z h0 o1 "java/lang/String") (H9 : Fld Z h0 o1 "java/lang/String" "coder" "B" (.int (0 : Int32))) (H10 : Fld Z h0 o1 "java/lang/String" "value" "[B" (.ref bv)) (H11 : Arv Z h0 bv kb .byte (3 : Int32) [(.int (c0).toInt8.toInt32), (.int (c1).toInt8.toInt32), (.int (c2).toInt8.toInt32)] (.int (0 : Int32))) (hb0 : ¬ (c0 < 0) ∧ ¬ ((255 : Int32) < c0)) (hb1 : ¬ (c1 < 0) ∧ ¬ ((255 : Int32) < c1)) (hb2 : ¬ (c2 < 0) ∧ ¬ ((255 : Int32) < c2)) :
    MetFree l (⟨"com/example/task_relay/taskrelay/Scope", "allows", "(Ljava/lang/String;)Z"⟩ : MethodName) (head1 (Jvm.Cond.code (⟨"com/example/task_relay/taskrelay/Scope", "allows", "(Ljava/lang/String;)Z"⟩ : MethodName) prog_36_method_5_code 2 (some .boolean) :: ws) ({ frames := 2, cells := 4, slots := 36, locals := 28 } : Room)) (fun a U => a = #[(.ref o0), (.ref o1)] ∧ Z.Warmed39 U.vm ∧ U.heap = h0 ∧ IB Z U.vm []) (fun _ _ _ _ _ => True) (fun _ U o U' => ∃ v L, o = .returned v ∧ Qrmar3 Z o0 o1 wF G1 bv kb c0 c1 c2 h0 n0 v U'.heap L ∧ ReturnedEndW U o U' L ({ frames := 2, cells := 4, slots := 36, locals := 28 } : Room).cells ({ frames := 2, cells := 4, slots := 36, locals := 28 } : Room).slots) := by
  refine MetFree.of_bodySF (plainFor_of_name pn_2) hisR ?_
  intro p e s m args below meth c s₁ Bd hml0 hP hK
  obtain ⟨rfl, hZ, hh, hI⟩ := hP
  have hx := Bd.exec
  have hby := Bd.bytes
  have hml : c.maxLocals = 2 := hml0
  have hown : s.vm.findClass "com/example/task_relay/taskrelay/Scope" = some m.cls := findClass_of_methodNamed Bd.named
  have hnm := (name_of_methodNamed Bd.named Bd.method).1
  have X0 : Stand p l e ({ frames := 2, cells := 4, slots := 36, locals := 28 } : Room) s m #[(.ref o0), (.ref o1)] below meth c s₁ [] 0 0 := Stand.of_body Bd
  have e0 : s₁.heap = h0 := by rw [← hh, Bd.state]; rfl
  have N0 := Fr.nil h0.size
  have pre0 : ∀ t, Steps p.tables e below (s₁.setTop (mkF m 0 #[.val (.ref o0), .val (.ref o1)] [])) t → Steps p.tables e below (s₁.setTop (entryFrame m #[(.ref o0), (.ref o1)] 2)) t := fun t k => castTop (ef_rmar3 m o0 o1) k
  have z113 : @LT.lt Nat _ o1 (Array.size h0) := H8.lt
  have z114 : @LT.lt Nat _ o1 (Array.size h0) := H9.lt
  have z115 : @LT.lt Nat _ o1 (Array.size h0) := H10.lt
  have z116 : @LT.lt Nat _ bv (Array.size h0) := H11.lt
  have KC0 : Keep h0 h0 [] := Keep.refl _ _
  have hS0 : s.Since s.vm h0.size := (State.WarmedH.refl s).since _
  obtain ⟨T117, X117, e117, st117⟩ := getS2 X0 hx hZ hown (host := "") (Or.inl (hw _ (List.mem_of_getElem? (i := 20) rfl))) Via.refl e0 H0 (g := (mkF m 1 #[.val (.ref o0), .val (.ref o1)] [(.ref o0)])) rfl (hb hby d2_1)
  obtain ⟨a118, T118, h118, k118, bv118, kb118, X118, e118, E118, hS118, z118k, hZ118, hw118, PE118, PC118, PV118, PA118, z118a, z118b, hI118, Lt118, st118⟩ := ldcSVL (s := s) (vm0 := s.vm) X117 hx hZ hown (hw _ (List.mem_of_getElem? (i := 22) rfl)) (fun d hd => hw d (own_sa d hd)) e117 hS0 (by omega) (by rw [hh]; exact N0) (fun b cl q => by rw [hh]; exact X00.2 b cl q) hI (by decide) hh58 hcw (vs := [(.int (71 : Int32)), (.int (69 : Int32)), (.int (84 : Int32))]) (z := (3 : Int32)) ⟨by decide, rfl⟩ (by decide) rfl (g := (mkF m 8 #[.val (.ref o0), .val (.ref o1)] [(.ref o1)])) rfl (hb hby d2_8) (n := 12) (by decide) (by decide) (by decide) (by decide)
  have z119 := E118.1
  have KC120 : Keep h0 h118 [] := KC0.ext E118
  have z121 : @LT.lt Nat _ a118 (Array.size h118) := PE118.lt
  have z122 : @LT.lt Nat _ bv118 (Array.size h118) := PA118.lt
  have Fc125 := (H8.ext E118)
  have Fc126 := (H10.ext E118)
  have Fc127 := (H9.ext E118)
  have Fc128 := (H11.ext E118)
  have hp124 : ∀ c ∈ ([c0, c1, c2] : List Int32), ¬ c < 0 ∧ ¬ (255 : Int32) < c := by
    intro c hc
    simp only [List.mem_cons, List.not_mem_nil, or_false] at hc
    rcases hc with rfl | rfl | rfl
    · exact hb0
    · exact hb1
    · exact hb2
  have hcd124 : StrChars.Road.CodA ([c0, c1, c2] : List Int32) 0 (3 : Int32) [(.int (c0).toInt8.toInt32), (.int (c1).toInt8.toInt32), (.int (c2).toInt8.toInt32)] := StrChars.Road.codOf (n := 3) rfl (fun c hc => (hp124 c hc).2)
  have hp129 : ∀ c ∈ ([(71 : Int32), (69 : Int32), (84 : Int32)] : List Int32), ¬ c < 0 ∧ ¬ (255 : Int32) < c := by
    decide
  have hcd129 : StrChars.Road.CodA ([(71 : Int32), (69 : Int32), (84 : Int32)] : List Int32) 0 (3 : Int32) [(.int (71 : Int32)), (.int (69 : Int32)), (.int (84 : Int32))] := StrChars.Road.codOf (n := 3) rfl (fun c hc => (hp129 c hc).2)
  have Fc130 := (H1.ext E118)
  obtain ⟨cq123, kq123, qa123, qb123, qc123⟩ := isOf hZ118 e118 Fc125
  obtain ⟨v123, _, ⟨T123, L123, k123, n123⟩, -, X123, ⟨Lc123, hQ123, l123, y123, z123⟩, st123⟩ := X118.virtualBack hx (y := (⟨"java/lang/String", "equals", "(Ljava/lang/Object;)Z"⟩ : MethodName)) (z := (⟨"java/lang/String", "equals", "(Ljava/lang/Object;)Z"⟩ : MethodName)) hw118 (mvT hZ118 (hw _ (List.mem_of_getElem? (i := 23) rfl))) (mvT hZ118 (hw _ (List.mem_of_getElem? (i := 24) rfl))) (notFace_of_selects (args := #[]) (mvT hZ118 (hw _ (List.mem_of_getElem? (i := 26) rfl)))) (mvT hZ118 (hw _ (List.mem_of_getElem? (i := 26) rfl))) (mvT hZ118 (hw _ (List.mem_of_getElem? (i := 25) rfl))) (by decide) (StrChars.Road.eqW (W := 0) hZ118 (fun d hd => hw d (own_weq d hd)) (kI := 4) (hw _ (List.mem_of_getElem? (i := 6) rfl)) Fc125 Fc126 Fc127 Fc128 hcd124 (own_up _ hp124) (Nat.le_of_ble_eq_true rfl) PE118 PV118 PC118 PA118 hcd129 (own_up _ hp129) (Nat.le_of_ble_eq_true rfl) Fc130 hG1 (by decide) (by decide)) qa123 qc123 (g := (mkF m 10 #[.val (.ref o0), .val (.ref o1)] [(.ref a118), (.ref o1)])) rfl (by rw [hml]; rfl) (Steps.refl _) (argsL := [(.ref a118)]) (rest := []) (lenOf pd_0 rfl) rfl (by show 2 * 0 + _ ≤ _; exact Nat.le_of_eq rfl) (hb hby d2_10) (fun _ _ => ⟨rfl, e118, (by decide : 2 + 0 ≤ _), (by decide : 16 + 0 ≤ _)⟩)
  dsimp only [Pt.U, Pt.locs, Pt.cells, Pt.slots] at X123 l123 y123 z123 st123 hQ123
  subst l123 y123 z123
  obtain ⟨hv123, rfl, e123⟩ := hQ123
  have N123 := Fr.app N0 (Fr.nil h0.size)
  rcases hv123 with ⟨rfl, hd123⟩ | ⟨rfl, hd123⟩
  · have z131 := congrArg Array.size e123
    obtain ⟨fs, hr, hrun, hended, rE1, rE2, rE3, rE4⟩ := leaveW (s := s) (vm₁ := T118.vm) X123 hS118 (by omega : k118 ≤ T123.heap.size) (v := some (.int (1 : Int32))) (fun h => by rw [Bd.returns] at h; cases h)
    refine ⟨_, _, pre0 _ ?_, hrun, hended, _, _, rfl, ?_, rE1, rE2, rE3, rE4.mono (by decide) (by decide)⟩
    · show Steps p.tables e below (s₁.setTop (mkF m 0 #[.val (.ref o0), .val (.ref o1)] [])) _
      refine XS.aloadN X0.here hx rfl (hb hby d2_0) rfl rfl ?_
      show Steps p.tables e below (s₁.setTop (mkF m 1 #[.val (.ref o0), .val (.ref o1)] [(.ref o0)])) _
      refine st117 _ ?_
      show Steps p.tables e below (T117.setTop (mkF m 4 #[.val (.ref o0), .val (.ref o1)] [(.ref wF), (.ref o0)])) _
      refine Jvm.RoadKit.acmp (g := (mkF m 4 #[.val (.ref o0), .val (.ref o1)] [(.ref wF), (.ref o0)])) X117 hx rfl rfl rfl (pc0 := 4) (pc' := 7) (same := false) rfl (hb hby d2_4) rfl (decide_eq_false fun k => hne (Value.ref.inj k)) (by decide) (by decide) ?_
      show Steps p.tables e below (T117.setTop (mkF m 7 #[.val (.ref o0), .val (.ref o1)] [])) _
      refine XS.aloadN X117.here hx rfl (hb hby d2_7) rfl rfl ?_
      show Steps p.tables e below (T117.setTop (mkF m 8 #[.val (.ref o0), .val (.ref o1)] [(.ref o1)])) _
      refine st118 _ ?_
      show Steps p.tables e below (T118.setTop (mkF m 10 #[.val (.ref o0), .val (.ref o1)] [(.ref a118), (.ref o1)])) _
      refine st123.trans ?_
      show Steps p.tables e below (T123.setTop (mkF m 13 #[.val (.ref o0), .val (.ref o1)] [(.int (1 : Int32))])) _
      refine XS.ifYes X123.here hx rfl (pc0 := 13) (pc' := 25) rfl (hb hby d2_13) rfl ((if0 _ _).trans (feq (by decide : ¬ ((1 : Int32) = (0 : Int32)))).2) (by decide) (by decide) ?_
      show Steps p.tables e below (T123.setTop (mkF m 25 #[.val (.ref o0), .val (.ref o1)] [])) _
      refine XS.iconst X123.here hx rfl (hb hby d2_25) ?_
      show Steps p.tables e below (T123.setTop (mkF m 26 #[.val (.ref o0), .val (.ref o1)] [(.int (1 : Int32))])) _
      refine XS.goto X123.here hx rfl (pc0 := 26) (pc' := 30) rfl (hb hby d2_26) (by decide) (by decide) ?_
      show Steps p.tables e below (T123.setTop (mkF m 30 #[.val (.ref o0), .val (.ref o1)] [(.int (1 : Int32))])) _
      exact retN X123 hx (t := .boolean) Bd.returns (by simp) (hb hby d2_30) hr
    · show Qrmar3 Z o0 o1 wF G1 bv kb c0 c1 c2 h0 n0 _ T123.heap _
      rw [e123]
      exact ⟨(by rw [bi_t hd123]), (fun y hy => Nat.le_trans Z0 (N123 y hy)), KC120⟩
  · obtain ⟨a132, T132, h132, k132, bv132, kb132, X132, e132, E132, hS132, z132k, hZ132, hw132, PE132, PC132, PV132, PA132, z132a, z132b, hI132, Lt132, st132⟩ := ldcSVL (s := s) (vm0 := T118.vm) X123 hx hZ118 hw118 (hw _ (List.mem_of_getElem? (i := 37) rfl)) (fun d hd => hw d (own_sa d hd)) e123 hS118 (by omega) (by rw [hh]; exact N123) (fun b cl q => by rw [hh]; exact X00.2 b cl q) hI118 (by decide) hh60 hcw (vs := [(.int (72 : Int32)), (.int (69 : Int32)), (.int (65 : Int32)), (.int (68 : Int32))]) (z := (4 : Int32)) ⟨by decide, rfl⟩ (by decide) rfl (g := (mkF m 17 #[.val (.ref o0), .val (.ref o1)] [(.ref o1)])) rfl (hb hby d2_17) (n := 16) (by decide) (by decide) (by decide) (by decide)
    have z133 := E132.1
    have KC134 : Keep h0 h132 [] := KC120.ext E132
    have z135 : @LT.lt Nat _ a132 (Array.size h132) := PE132.lt
    have z136 : @LT.lt Nat _ bv132 (Array.size h132) := PA132.lt
    have Fc139 := (Fc125.ext E132)
    have Fc140 := (Fc126.ext E132)
    have Fc141 := (Fc127.ext E132)
    have Fc142 := (Fc128.ext E132)
    have hp138 : ∀ c ∈ ([c0, c1, c2] : List Int32), ¬ c < 0 ∧ ¬ (255 : Int32) < c := by
      intro c hc
      simp only [List.mem_cons, List.not_mem_nil, or_false] at hc
      rcases hc with rfl | rfl | rfl
      · exact hb0
      · exact hb1
      · exact hb2
    have hcd138 : StrChars.Road.CodA ([c0, c1, c2] : List Int32) 0 (3 : Int32) [(.int (c0).toInt8.toInt32), (.int (c1).toInt8.toInt32), (.int (c2).toInt8.toInt32)] := StrChars.Road.codOf (n := 3) rfl (fun c hc => (hp138 c hc).2)
    have hp143 : ∀ c ∈ ([(72 : Int32), (69 : Int32), (65 : Int32), (68 : Int32)] : List Int32), ¬ c < 0 ∧ ¬ (255 : Int32) < c := by
      decide
    have hcd143 : StrChars.Road.CodA ([(72 : Int32), (69 : Int32), (65 : Int32), (68 : Int32)] : List Int32) 0 (4 : Int32) [(.int (72 : Int32)), (.int (69 : Int32)), (.int (65 : Int32)), (.int (68 : Int32))] := StrChars.Road.codOf (n := 4) rfl (fun c hc => (hp143 c hc).2)
    have Fc144 := (Fc130.ext E132)
    obtain ⟨cq137, kq137, qa137, qb137, qc137⟩ := isOf hZ132 e132 Fc139
    obtain ⟨v137, _, ⟨T137, L137, k137, n137⟩, -, X137, ⟨Lc137, hQ137, l137, y137, z137⟩, st137⟩ := X132.virtualBack hx (y := (⟨"java/lang/String", "equals", "(Ljava/lang/Object;)Z"⟩ : MethodName)) (z := (⟨"java/lang/String", "equals", "(Ljava/lang/Object;)Z"⟩ : MethodName)) hw132 (mvT hZ132 (hw _ (List.mem_of_getElem? (i := 23) rfl))) (mvT hZ132 (hw _ (List.mem_of_getElem? (i := 24) rfl))) (notFace_of_selects (args := #[]) (mvT hZ132 (hw _ (List.mem_of_getElem? (i := 26) rfl)))) (mvT hZ132 (hw _ (List.mem_of_getElem? (i := 26) rfl))) (mvT hZ132 (hw _ (List.mem_of_getElem? (i := 25) rfl))) (by decide) (StrChars.Road.eqW (W := 0) hZ132 (fun d hd => hw d (own_weq d hd)) (kI := 4) (hw _ (List.mem_of_getElem? (i := 6) rfl)) Fc139 Fc140 Fc141 Fc142 hcd138 (own_up _ hp138) (Nat.le_of_ble_eq_true rfl) PE132 PV132 PC132 PA132 hcd143 (own_up _ hp143) (Nat.le_of_ble_eq_true rfl) Fc144 hG1 (by decide) (by decide)) qa137 qc137 (g := (mkF m 19 #[.val (.ref o0), .val (.ref o1)] [(.ref a132), (.ref o1)])) rfl (by rw [hml]; rfl) (Steps.refl _) (argsL := [(.ref a132)]) (rest := []) (lenOf pd_0 rfl) rfl (by show 2 * 0 + _ ≤ _; exact Nat.le_of_eq rfl) (hb hby d2_19) (fun _ _ => ⟨rfl, e132, (by decide : 4 + 0 ≤ _), (by decide : 36 + 0 ≤ _)⟩)
    dsimp only [Pt.U, Pt.locs, Pt.cells, Pt.slots] at X137 l137 y137 z137 st137 hQ137
    subst l137 y137 z137
    obtain ⟨hv137, rfl, e137⟩ := hQ137
    have N137 := Fr.app N123 (Fr.nil h0.size)
    rcases hv137 with ⟨rfl, hd137⟩ | ⟨rfl, hd137⟩
    · simp at hd137
    · have z145 := congrArg Array.size e137
      obtain ⟨fs, hr, hrun, hended, rE1, rE2, rE3, rE4⟩ := leaveW (s := s) (vm₁ := T132.vm) X137 hS132 (by omega : k132 ≤ T137.heap.size) (v := some (.int (0 : Int32))) (fun h => by rw [Bd.returns] at h; cases h)
      refine ⟨_, _, pre0 _ ?_, hrun, hended, _, _, rfl, ?_, rE1, rE2, rE3, rE4.mono (by decide) (by decide)⟩
      · show Steps p.tables e below (s₁.setTop (mkF m 0 #[.val (.ref o0), .val (.ref o1)] [])) _
        refine XS.aloadN X0.here hx rfl (hb hby d2_0) rfl rfl ?_
        show Steps p.tables e below (s₁.setTop (mkF m 1 #[.val (.ref o0), .val (.ref o1)] [(.ref o0)])) _
        refine st117 _ ?_
        show Steps p.tables e below (T117.setTop (mkF m 4 #[.val (.ref o0), .val (.ref o1)] [(.ref wF), (.ref o0)])) _
        refine Jvm.RoadKit.acmp (g := (mkF m 4 #[.val (.ref o0), .val (.ref o1)] [(.ref wF), (.ref o0)])) X117 hx rfl rfl rfl (pc0 := 4) (pc' := 7) (same := false) rfl (hb hby d2_4) rfl (decide_eq_false fun k => hne (Value.ref.inj k)) (by decide) (by decide) ?_
        show Steps p.tables e below (T117.setTop (mkF m 7 #[.val (.ref o0), .val (.ref o1)] [])) _
        refine XS.aloadN X117.here hx rfl (hb hby d2_7) rfl rfl ?_
        show Steps p.tables e below (T117.setTop (mkF m 8 #[.val (.ref o0), .val (.ref o1)] [(.ref o1)])) _
        refine st118 _ ?_
        show Steps p.tables e below (T118.setTop (mkF m 10 #[.val (.ref o0), .val (.ref o1)] [(.ref a118), (.ref o1)])) _
        refine st123.trans ?_
        show Steps p.tables e below (T123.setTop (mkF m 13 #[.val (.ref o0), .val (.ref o1)] [(.int (0 : Int32))])) _
        refine XS.ifNo X123.here hx rfl (hb hby d2_13) rfl ((if0 _ _).trans (teq (by decide : (0 : Int32) = (0 : Int32))).2) ?_
        show Steps p.tables e below (T123.setTop (mkF m 16 #[.val (.ref o0), .val (.ref o1)] [])) _
        refine XS.aloadN X123.here hx rfl (hb hby d2_16) rfl rfl ?_
        show Steps p.tables e below (T123.setTop (mkF m 17 #[.val (.ref o0), .val (.ref o1)] [(.ref o1)])) _
        refine st132 _ ?_
        show Steps p.tables e below (T132.setTop (mkF m 19 #[.val (.ref o0), .val (.ref o1)] [(.ref a132), (.ref o1)])) _
        refine st137.trans ?_
        show Steps p.tables e below (T137.setTop (mkF m 22 #[.val (.ref o0), .val (.ref o1)] [(.int (0 : Int32))])) _
        refine XS.ifYes X137.here hx rfl (pc0 := 22) (pc' := 29) rfl (hb hby d2_22) rfl ((if0 _ _).trans (teq (by decide : (0 : Int32) = (0 : Int32))).1) (by decide) (by decide) ?_
        show Steps p.tables e below (T137.setTop (mkF m 29 #[.val (.ref o0), .val (.ref o1)] [])) _
        refine XS.iconst X137.here hx rfl (hb hby d2_29) ?_
        show Steps p.tables e below (T137.setTop (mkF m 30 #[.val (.ref o0), .val (.ref o1)] [(.int (0 : Int32))])) _
        exact retN X137 hx (t := .boolean) Bd.returns (by simp) (hb hby d2_30) hr
      · show Qrmar3 Z o0 o1 wF G1 bv kb c0 c1 c2 h0 n0 _ T137.heap _
        rw [e137]
        exact ⟨(by rw [bi_f hd123]), (fun y hy => Nat.le_trans Z0 (N137 y hy)), KC134⟩
theorem ef_rmar4 (m : MethodId) (o0 : Addr) (o1 : Addr) : entryFrame m #[(.ref o0), (.ref o1)] 2 = mkF m 0 #[.val (.ref o0), .val (.ref o1)] [] := by first | (simp [entryFrame, mkF, argsToLocals, Value.category]; done) | rfl
def Qrmar4 (Z : State) (o0 : Addr) (o1 : Addr) (wF : Addr) (G1 : Int32) (bv : Addr) (kb : ClassId) (c0 : Int32) (c1 : Int32) (c2 : Int32) (c3 : Int32) (h0 : Heap) (n0 : Nat) (v : Option Value) (h : Heap) (L : List Loc) : Prop := v = some (.int (bi (([c0, c1, c2, c3] : List Int32) = ([(72 : Int32), (69 : Int32), (65 : Int32), (68 : Int32)] : List Int32)))) ∧ Fr n0 L ∧ Keep h0 h []
set_option maxRecDepth 65536 in
set_option maxHeartbeats 40000000 in
theorem rmar4 (l : Launch) (Z : State) (a0 : Array Value) (hw : ∀ d ∈ tables_1, d.before a0 Z = true) (ws : List Jvm.Cond) (o0 : Addr) (o1 : Addr) (wF : Addr) (G1 : Int32) (bv : Addr) (kb : ClassId) (c0 : Int32) (c1 : Int32) (c2 : Int32) (c3 : Int32) (h0 : Heap) (n0 : Nat) (Z0 : n0 ≤ h0.size) (H0 : Sta Z h0 "com/example/task_relay/taskrelay/Scope" "FULL" "Lcom/example/task_relay/taskrelay/Scope;" (.ref wF)) (H1 : Sta Z h0 "java/lang/String" "COMPACT_STRINGS" "Z" (.int G1)) (hG1 : ¬ (G1 = (0 : Int32))) (hh58 : Jvm.Lit.constHeld Z "com/example/task_relay/taskrelay/Scope" 58) (hh60 : Jvm.Lit.constHeld Z "com/example/task_relay/taskrelay/Scope" 60) (X00 : Ext Z.heap h0) (hcw : Jvm.Lit.compactW.before a0 Z = true) (hne : ¬ (o0 = wF)) (H8 : Exa Z h0 o1 "java/lang/String") (H9 : Fld Z h0 o1 "java/lang/String" "coder" "B" (.int (0 : Int32))) (H10 : Fld Z h0 o1 "java/lang/String" "value" "[B" (.ref bv)) (H11 : Arv Z h0 bv kb .byte (4 : Int32) [(.int (c0).toInt8.toInt32), (.int (c1).toInt8.toInt32), (.int (c2).toInt8.toInt32), (.int (c3).toInt8.toInt32)] (.int (0 : Int32))) (hb0 : ¬ (c0 < 0) ∧ ¬ ((255 : Int32) < c0)) (hb1 : ¬ (c1 < 0) ∧ ¬ ((255 : Int32) < c1)) (hb2 : ¬ (c2 < 0) ∧ ¬ ((255 : Int32) < c2)) (hb3 : ¬ (c3 < 0) ∧ ¬ ((255 : Int32) < c3)) :
    MetFree l (⟨"com/example/task_relay/taskrelay/Scope", "allows", "(Ljava/lang/String;)Z"⟩ : MethodName) (head1 (Jvm.Cond.code (⟨"com/example/task_relay/taskrelay/Scope", "allows", "(Ljava/lang/String;)Z"⟩ : MethodName) prog_36_method_5_code 2 (some .boolean) :: ws) ({ frames := 2, cells := 4, slots := 36, locals := 28 } : Room)) (fun a U => a = #[(.ref o0), (.ref o1)] ∧ Z.Warmed39 U.vm ∧ U.heap = h0 ∧ IB Z U.vm []) (fun _ _ _ _ _ => True) (fun _ U o U' => ∃ v L, o = .returned v ∧ Qrmar4 Z o0 o1 wF G1 bv kb c0 c1 c2 c3 h0 n0 v U'.heap L ∧ ReturnedEndW U o U' L ({ frames := 2, cells := 4, slots := 36, locals := 28 } : Room).cells ({ frames := 2, cells := 4, slots := 36, locals := 28 } : Room).slots) := by
  refine MetFree.of_bodySF (plainFor_of_name pn_2) hisR ?_
  intro p e s m args below meth c s₁ Bd hml0 hP hK
  obtain ⟨rfl, hZ, hh, hI⟩ := hP
  have hx := Bd.exec
  have hby := Bd.bytes
  have hml : c.maxLocals = 2 := hml0
  have hown : s.vm.findClass "com/example/task_relay/taskrelay/Scope" = some m.cls := findClass_of_methodNamed Bd.named
  have hnm := (name_of_methodNamed Bd.named Bd.method).1
  have X0 : Stand p l e ({ frames := 2, cells := 4, slots := 36, locals := 28 } : Room) s m #[(.ref o0), (.ref o1)] below meth c s₁ [] 0 0 := Stand.of_body Bd
  have e0 : s₁.heap = h0 := by rw [← hh, Bd.state]; rfl
  have N0 := Fr.nil h0.size
  have pre0 : ∀ t, Steps p.tables e below (s₁.setTop (mkF m 0 #[.val (.ref o0), .val (.ref o1)] [])) t → Steps p.tables e below (s₁.setTop (entryFrame m #[(.ref o0), (.ref o1)] 2)) t := fun t k => castTop (ef_rmar4 m o0 o1) k
  have z146 : @LT.lt Nat _ o1 (Array.size h0) := H8.lt
  have z147 : @LT.lt Nat _ o1 (Array.size h0) := H9.lt
  have z148 : @LT.lt Nat _ o1 (Array.size h0) := H10.lt
  have z149 : @LT.lt Nat _ bv (Array.size h0) := H11.lt
  have KC0 : Keep h0 h0 [] := Keep.refl _ _
  have hS0 : s.Since s.vm h0.size := (State.WarmedH.refl s).since _
  obtain ⟨T150, X150, e150, st150⟩ := getS2 X0 hx hZ hown (host := "") (Or.inl (hw _ (List.mem_of_getElem? (i := 20) rfl))) Via.refl e0 H0 (g := (mkF m 1 #[.val (.ref o0), .val (.ref o1)] [(.ref o0)])) rfl (hb hby d2_1)
  obtain ⟨a151, T151, h151, k151, bv151, kb151, X151, e151, E151, hS151, z151k, hZ151, hw151, PE151, PC151, PV151, PA151, z151a, z151b, hI151, Lt151, st151⟩ := ldcSVL (s := s) (vm0 := s.vm) X150 hx hZ hown (hw _ (List.mem_of_getElem? (i := 22) rfl)) (fun d hd => hw d (own_sa d hd)) e150 hS0 (by omega) (by rw [hh]; exact N0) (fun b cl q => by rw [hh]; exact X00.2 b cl q) hI (by decide) hh58 hcw (vs := [(.int (71 : Int32)), (.int (69 : Int32)), (.int (84 : Int32))]) (z := (3 : Int32)) ⟨by decide, rfl⟩ (by decide) rfl (g := (mkF m 8 #[.val (.ref o0), .val (.ref o1)] [(.ref o1)])) rfl (hb hby d2_8) (n := 12) (by decide) (by decide) (by decide) (by decide)
  have z152 := E151.1
  have KC153 : Keep h0 h151 [] := KC0.ext E151
  have z154 : @LT.lt Nat _ a151 (Array.size h151) := PE151.lt
  have z155 : @LT.lt Nat _ bv151 (Array.size h151) := PA151.lt
  have Fc158 := (H8.ext E151)
  have Fc159 := (H10.ext E151)
  have Fc160 := (H9.ext E151)
  have Fc161 := (H11.ext E151)
  have hp157 : ∀ c ∈ ([c0, c1, c2, c3] : List Int32), ¬ c < 0 ∧ ¬ (255 : Int32) < c := by
    intro c hc
    simp only [List.mem_cons, List.not_mem_nil, or_false] at hc
    rcases hc with rfl | rfl | rfl | rfl
    · exact hb0
    · exact hb1
    · exact hb2
    · exact hb3
  have hcd157 : StrChars.Road.CodA ([c0, c1, c2, c3] : List Int32) 0 (4 : Int32) [(.int (c0).toInt8.toInt32), (.int (c1).toInt8.toInt32), (.int (c2).toInt8.toInt32), (.int (c3).toInt8.toInt32)] := StrChars.Road.codOf (n := 4) rfl (fun c hc => (hp157 c hc).2)
  have hp162 : ∀ c ∈ ([(71 : Int32), (69 : Int32), (84 : Int32)] : List Int32), ¬ c < 0 ∧ ¬ (255 : Int32) < c := by
    decide
  have hcd162 : StrChars.Road.CodA ([(71 : Int32), (69 : Int32), (84 : Int32)] : List Int32) 0 (3 : Int32) [(.int (71 : Int32)), (.int (69 : Int32)), (.int (84 : Int32))] := StrChars.Road.codOf (n := 3) rfl (fun c hc => (hp162 c hc).2)
  have Fc163 := (H1.ext E151)
  obtain ⟨cq156, kq156, qa156, qb156, qc156⟩ := isOf hZ151 e151 Fc158
  obtain ⟨v156, _, ⟨T156, L156, k156, n156⟩, -, X156, ⟨Lc156, hQ156, l156, y156, z156⟩, st156⟩ := X151.virtualBack hx (y := (⟨"java/lang/String", "equals", "(Ljava/lang/Object;)Z"⟩ : MethodName)) (z := (⟨"java/lang/String", "equals", "(Ljava/lang/Object;)Z"⟩ : MethodName)) hw151 (mvT hZ151 (hw _ (List.mem_of_getElem? (i := 23) rfl))) (mvT hZ151 (hw _ (List.mem_of_getElem? (i := 24) rfl))) (notFace_of_selects (args := #[]) (mvT hZ151 (hw _ (List.mem_of_getElem? (i := 26) rfl)))) (mvT hZ151 (hw _ (List.mem_of_getElem? (i := 26) rfl))) (mvT hZ151 (hw _ (List.mem_of_getElem? (i := 25) rfl))) (by decide) (StrChars.Road.eqW (W := 0) hZ151 (fun d hd => hw d (own_weq d hd)) (kI := 4) (hw _ (List.mem_of_getElem? (i := 6) rfl)) Fc158 Fc159 Fc160 Fc161 hcd157 (own_up _ hp157) (Nat.le_of_ble_eq_true rfl) PE151 PV151 PC151 PA151 hcd162 (own_up _ hp162) (Nat.le_of_ble_eq_true rfl) Fc163 hG1 (by decide) (by decide)) qa156 qc156 (g := (mkF m 10 #[.val (.ref o0), .val (.ref o1)] [(.ref a151), (.ref o1)])) rfl (by rw [hml]; rfl) (Steps.refl _) (argsL := [(.ref a151)]) (rest := []) (lenOf pd_0 rfl) rfl (by show 2 * 0 + _ ≤ _; exact Nat.le_of_eq rfl) (hb hby d2_10) (fun _ _ => ⟨rfl, e151, (by decide : 2 + 0 ≤ _), (by decide : 16 + 0 ≤ _)⟩)
  dsimp only [Pt.U, Pt.locs, Pt.cells, Pt.slots] at X156 l156 y156 z156 st156 hQ156
  subst l156 y156 z156
  obtain ⟨hv156, rfl, e156⟩ := hQ156
  have N156 := Fr.app N0 (Fr.nil h0.size)
  rcases hv156 with ⟨rfl, hd156⟩ | ⟨rfl, hd156⟩
  · simp at hd156
  · obtain ⟨a164, T164, h164, k164, bv164, kb164, X164, e164, E164, hS164, z164k, hZ164, hw164, PE164, PC164, PV164, PA164, z164a, z164b, hI164, Lt164, st164⟩ := ldcSVL (s := s) (vm0 := T151.vm) X156 hx hZ151 hw151 (hw _ (List.mem_of_getElem? (i := 37) rfl)) (fun d hd => hw d (own_sa d hd)) e156 hS151 (by omega) (by rw [hh]; exact N156) (fun b cl q => by rw [hh]; exact X00.2 b cl q) hI151 (by decide) hh60 hcw (vs := [(.int (72 : Int32)), (.int (69 : Int32)), (.int (65 : Int32)), (.int (68 : Int32))]) (z := (4 : Int32)) ⟨by decide, rfl⟩ (by decide) rfl (g := (mkF m 17 #[.val (.ref o0), .val (.ref o1)] [(.ref o1)])) rfl (hb hby d2_17) (n := 16) (by decide) (by decide) (by decide) (by decide)
    have z165 := E164.1
    have KC166 : Keep h0 h164 [] := KC153.ext E164
    have z167 : @LT.lt Nat _ a164 (Array.size h164) := PE164.lt
    have z168 : @LT.lt Nat _ bv164 (Array.size h164) := PA164.lt
    have Fc171 := (Fc158.ext E164)
    have Fc172 := (Fc159.ext E164)
    have Fc173 := (Fc160.ext E164)
    have Fc174 := (Fc161.ext E164)
    have hp170 : ∀ c ∈ ([c0, c1, c2, c3] : List Int32), ¬ c < 0 ∧ ¬ (255 : Int32) < c := by
      intro c hc
      simp only [List.mem_cons, List.not_mem_nil, or_false] at hc
      rcases hc with rfl | rfl | rfl | rfl
      · exact hb0
      · exact hb1
      · exact hb2
      · exact hb3
    have hcd170 : StrChars.Road.CodA ([c0, c1, c2, c3] : List Int32) 0 (4 : Int32) [(.int (c0).toInt8.toInt32), (.int (c1).toInt8.toInt32), (.int (c2).toInt8.toInt32), (.int (c3).toInt8.toInt32)] := StrChars.Road.codOf (n := 4) rfl (fun c hc => (hp170 c hc).2)
    have hp175 : ∀ c ∈ ([(72 : Int32), (69 : Int32), (65 : Int32), (68 : Int32)] : List Int32), ¬ c < 0 ∧ ¬ (255 : Int32) < c := by
      decide
    have hcd175 : StrChars.Road.CodA ([(72 : Int32), (69 : Int32), (65 : Int32), (68 : Int32)] : List Int32) 0 (4 : Int32) [(.int (72 : Int32)), (.int (69 : Int32)), (.int (65 : Int32)), (.int (68 : Int32))] := StrChars.Road.codOf (n := 4) rfl (fun c hc => (hp175 c hc).2)
    have Fc176 := (Fc163.ext E164)
    obtain ⟨cq169, kq169, qa169, qb169, qc169⟩ := isOf hZ164 e164 Fc171
    obtain ⟨v169, _, ⟨T169, L169, k169, n169⟩, -, X169, ⟨Lc169, hQ169, l169, y169, z169⟩, st169⟩ := X164.virtualBack hx (y := (⟨"java/lang/String", "equals", "(Ljava/lang/Object;)Z"⟩ : MethodName)) (z := (⟨"java/lang/String", "equals", "(Ljava/lang/Object;)Z"⟩ : MethodName)) hw164 (mvT hZ164 (hw _ (List.mem_of_getElem? (i := 23) rfl))) (mvT hZ164 (hw _ (List.mem_of_getElem? (i := 24) rfl))) (notFace_of_selects (args := #[]) (mvT hZ164 (hw _ (List.mem_of_getElem? (i := 26) rfl)))) (mvT hZ164 (hw _ (List.mem_of_getElem? (i := 26) rfl))) (mvT hZ164 (hw _ (List.mem_of_getElem? (i := 25) rfl))) (by decide) (StrChars.Road.eqW (W := 0) hZ164 (fun d hd => hw d (own_weq d hd)) (kI := 4) (hw _ (List.mem_of_getElem? (i := 6) rfl)) Fc171 Fc172 Fc173 Fc174 hcd170 (own_up _ hp170) (Nat.le_of_ble_eq_true rfl) PE164 PV164 PC164 PA164 hcd175 (own_up _ hp175) (Nat.le_of_ble_eq_true rfl) Fc176 hG1 (by decide) (by decide)) qa169 qc169 (g := (mkF m 19 #[.val (.ref o0), .val (.ref o1)] [(.ref a164), (.ref o1)])) rfl (by rw [hml]; rfl) (Steps.refl _) (argsL := [(.ref a164)]) (rest := []) (lenOf pd_0 rfl) rfl (by show 2 * 0 + _ ≤ _; exact Nat.le_of_eq rfl) (hb hby d2_19) (fun _ _ => ⟨rfl, e164, (by decide : 4 + 0 ≤ _), (by decide : 36 + 0 ≤ _)⟩)
    dsimp only [Pt.U, Pt.locs, Pt.cells, Pt.slots] at X169 l169 y169 z169 st169 hQ169
    subst l169 y169 z169
    obtain ⟨hv169, rfl, e169⟩ := hQ169
    have N169 := Fr.app N156 (Fr.nil h0.size)
    rcases hv169 with ⟨rfl, hd169⟩ | ⟨rfl, hd169⟩
    · have z177 := congrArg Array.size e169
      obtain ⟨fs, hr, hrun, hended, rE1, rE2, rE3, rE4⟩ := leaveW (s := s) (vm₁ := T164.vm) X169 hS164 (by omega : k164 ≤ T169.heap.size) (v := some (.int (1 : Int32))) (fun h => by rw [Bd.returns] at h; cases h)
      refine ⟨_, _, pre0 _ ?_, hrun, hended, _, _, rfl, ?_, rE1, rE2, rE3, rE4.mono (by decide) (by decide)⟩
      · show Steps p.tables e below (s₁.setTop (mkF m 0 #[.val (.ref o0), .val (.ref o1)] [])) _
        refine XS.aloadN X0.here hx rfl (hb hby d2_0) rfl rfl ?_
        show Steps p.tables e below (s₁.setTop (mkF m 1 #[.val (.ref o0), .val (.ref o1)] [(.ref o0)])) _
        refine st150 _ ?_
        show Steps p.tables e below (T150.setTop (mkF m 4 #[.val (.ref o0), .val (.ref o1)] [(.ref wF), (.ref o0)])) _
        refine Jvm.RoadKit.acmp (g := (mkF m 4 #[.val (.ref o0), .val (.ref o1)] [(.ref wF), (.ref o0)])) X150 hx rfl rfl rfl (pc0 := 4) (pc' := 7) (same := false) rfl (hb hby d2_4) rfl (decide_eq_false fun k => hne (Value.ref.inj k)) (by decide) (by decide) ?_
        show Steps p.tables e below (T150.setTop (mkF m 7 #[.val (.ref o0), .val (.ref o1)] [])) _
        refine XS.aloadN X150.here hx rfl (hb hby d2_7) rfl rfl ?_
        show Steps p.tables e below (T150.setTop (mkF m 8 #[.val (.ref o0), .val (.ref o1)] [(.ref o1)])) _
        refine st151 _ ?_
        show Steps p.tables e below (T151.setTop (mkF m 10 #[.val (.ref o0), .val (.ref o1)] [(.ref a151), (.ref o1)])) _
        refine st156.trans ?_
        show Steps p.tables e below (T156.setTop (mkF m 13 #[.val (.ref o0), .val (.ref o1)] [(.int (0 : Int32))])) _
        refine XS.ifNo X156.here hx rfl (hb hby d2_13) rfl ((if0 _ _).trans (teq (by decide : (0 : Int32) = (0 : Int32))).2) ?_
        show Steps p.tables e below (T156.setTop (mkF m 16 #[.val (.ref o0), .val (.ref o1)] [])) _
        refine XS.aloadN X156.here hx rfl (hb hby d2_16) rfl rfl ?_
        show Steps p.tables e below (T156.setTop (mkF m 17 #[.val (.ref o0), .val (.ref o1)] [(.ref o1)])) _
        refine st164 _ ?_
        show Steps p.tables e below (T164.setTop (mkF m 19 #[.val (.ref o0), .val (.ref o1)] [(.ref a164), (.ref o1)])) _
        refine st169.trans ?_
        show Steps p.tables e below (T169.setTop (mkF m 22 #[.val (.ref o0), .val (.ref o1)] [(.int (1 : Int32))])) _
        refine XS.ifNo X169.here hx rfl (hb hby d2_22) rfl ((if0 _ _).trans (feq (by decide : ¬ ((1 : Int32) = (0 : Int32)))).1) ?_
        show Steps p.tables e below (T169.setTop (mkF m 25 #[.val (.ref o0), .val (.ref o1)] [])) _
        refine XS.iconst X169.here hx rfl (hb hby d2_25) ?_
        show Steps p.tables e below (T169.setTop (mkF m 26 #[.val (.ref o0), .val (.ref o1)] [(.int (1 : Int32))])) _
        refine XS.goto X169.here hx rfl (pc0 := 26) (pc' := 30) rfl (hb hby d2_26) (by decide) (by decide) ?_
        show Steps p.tables e below (T169.setTop (mkF m 30 #[.val (.ref o0), .val (.ref o1)] [(.int (1 : Int32))])) _
        exact retN X169 hx (t := .boolean) Bd.returns (by simp) (hb hby d2_30) hr
      · show Qrmar4 Z o0 o1 wF G1 bv kb c0 c1 c2 c3 h0 n0 _ T169.heap _
        rw [e169]
        exact ⟨(by rw [bi_t hd169]), (fun y hy => Nat.le_trans Z0 (N169 y hy)), KC166⟩
    · have z178 := congrArg Array.size e169
      obtain ⟨fs, hr, hrun, hended, rE1, rE2, rE3, rE4⟩ := leaveW (s := s) (vm₁ := T164.vm) X169 hS164 (by omega : k164 ≤ T169.heap.size) (v := some (.int (0 : Int32))) (fun h => by rw [Bd.returns] at h; cases h)
      refine ⟨_, _, pre0 _ ?_, hrun, hended, _, _, rfl, ?_, rE1, rE2, rE3, rE4.mono (by decide) (by decide)⟩
      · show Steps p.tables e below (s₁.setTop (mkF m 0 #[.val (.ref o0), .val (.ref o1)] [])) _
        refine XS.aloadN X0.here hx rfl (hb hby d2_0) rfl rfl ?_
        show Steps p.tables e below (s₁.setTop (mkF m 1 #[.val (.ref o0), .val (.ref o1)] [(.ref o0)])) _
        refine st150 _ ?_
        show Steps p.tables e below (T150.setTop (mkF m 4 #[.val (.ref o0), .val (.ref o1)] [(.ref wF), (.ref o0)])) _
        refine Jvm.RoadKit.acmp (g := (mkF m 4 #[.val (.ref o0), .val (.ref o1)] [(.ref wF), (.ref o0)])) X150 hx rfl rfl rfl (pc0 := 4) (pc' := 7) (same := false) rfl (hb hby d2_4) rfl (decide_eq_false fun k => hne (Value.ref.inj k)) (by decide) (by decide) ?_
        show Steps p.tables e below (T150.setTop (mkF m 7 #[.val (.ref o0), .val (.ref o1)] [])) _
        refine XS.aloadN X150.here hx rfl (hb hby d2_7) rfl rfl ?_
        show Steps p.tables e below (T150.setTop (mkF m 8 #[.val (.ref o0), .val (.ref o1)] [(.ref o1)])) _
        refine st151 _ ?_
        show Steps p.tables e below (T151.setTop (mkF m 10 #[.val (.ref o0), .val (.ref o1)] [(.ref a151), (.ref o1)])) _
        refine st156.trans ?_
        show Steps p.tables e below (T156.setTop (mkF m 13 #[.val (.ref o0), .val (.ref o1)] [(.int (0 : Int32))])) _
        refine XS.ifNo X156.here hx rfl (hb hby d2_13) rfl ((if0 _ _).trans (teq (by decide : (0 : Int32) = (0 : Int32))).2) ?_
        show Steps p.tables e below (T156.setTop (mkF m 16 #[.val (.ref o0), .val (.ref o1)] [])) _
        refine XS.aloadN X156.here hx rfl (hb hby d2_16) rfl rfl ?_
        show Steps p.tables e below (T156.setTop (mkF m 17 #[.val (.ref o0), .val (.ref o1)] [(.ref o1)])) _
        refine st164 _ ?_
        show Steps p.tables e below (T164.setTop (mkF m 19 #[.val (.ref o0), .val (.ref o1)] [(.ref a164), (.ref o1)])) _
        refine st169.trans ?_
        show Steps p.tables e below (T169.setTop (mkF m 22 #[.val (.ref o0), .val (.ref o1)] [(.int (0 : Int32))])) _
        refine XS.ifYes X169.here hx rfl (pc0 := 22) (pc' := 29) rfl (hb hby d2_22) rfl ((if0 _ _).trans (teq (by decide : (0 : Int32) = (0 : Int32))).1) (by decide) (by decide) ?_
        show Steps p.tables e below (T169.setTop (mkF m 29 #[.val (.ref o0), .val (.ref o1)] [])) _
        refine XS.iconst X169.here hx rfl (hb hby d2_29) ?_
        show Steps p.tables e below (T169.setTop (mkF m 30 #[.val (.ref o0), .val (.ref o1)] [(.int (0 : Int32))])) _
        exact retN X169 hx (t := .boolean) Bd.returns (by simp) (hb hby d2_30) hr
      · show Qrmar4 Z o0 o1 wF G1 bv kb c0 c1 c2 c3 h0 n0 _ T169.heap _
        rw [e169]
        exact ⟨(by rw [bi_f hd169]), (fun y hy => Nat.le_trans Z0 (N169 y hy)), KC166⟩
theorem pd_1 : parseMethodDescriptor "(I)C" = some ⟨[.int], some .char⟩ := by decide +kernel
theorem pd_2 : parseMethodDescriptor "(Ljava/lang/String;)Z" = some ⟨[(.object "java/lang/String")], some .boolean⟩ := by decide +kernel
theorem pd_3 : parseMethodDescriptor "([C)V" = some ⟨[(.array .char)], none⟩ := by decide +kernel
theorem ef_rm0 (m : MethodId) (p0 : Int32) (p1 : Int32) (p2 : Int32) (p3 : Int32) (p4 : Int32) : entryFrame m #[(.int p0), (.int p1), (.int p2), (.int p3), (.int p4)] maxLocals = mkF m 0 #[.val (.int p0), .val (.int p1), .val (.int p2), .val (.int p3), .val (.int p4), .unset, .unset, .unset, .unset, .unset, .unset, .unset, .unset, .unset, .unset, .unset] [] := by first | (simp [entryFrame, mkF, argsToLocals, Value.category, maxLocals]; done) | rfl
def Qrm0 (Z : State) (p0 : Int32) (p1 : Int32) (p2 : Int32) (p3 : Int32) (p4 : Int32) (wF : Addr) (wR : Addr) (G1 : Int32) (h0 : Heap) (n0 : Nat) (v : Option Value) (h : Heap) (L : List Loc) : Prop := v = some (.int (1 : Int32)) ∧ Fr n0 L ∧ Keep h0 h []
set_option maxRecDepth 65536 in
set_option maxHeartbeats 40000000 in
theorem rm0 (l : Launch) (Z : State) (a0 : Array Value) (hw : ∀ d ∈ tables_1, d.before a0 Z = true) (ws : List Jvm.Cond) (p0 : Int32) (p1 : Int32) (p2 : Int32) (p3 : Int32) (p4 : Int32) (wF : Addr) (wR : Addr) (G1 : Int32) (h0 : Heap) (n0 : Nat) (Z0 : n0 ≤ h0.size) (H0 : Sta Z h0 "com/example/task_relay/taskrelay/Scope" "FULL" "Lcom/example/task_relay/taskrelay/Scope;" (.ref wF)) (H1 : Sta Z h0 "com/example/task_relay/taskrelay/Scope" "READ" "Lcom/example/task_relay/taskrelay/Scope;" (.ref wR)) (H2 : Exa Z h0 wF "com/example/task_relay/taskrelay/Scope") (H3 : Exa Z h0 wR "com/example/task_relay/taskrelay/Scope") (H4 : Sta Z h0 "java/lang/String" "COMPACT_STRINGS" "Z" (.int G1)) (hG1 : ¬ (G1 = (0 : Int32))) (hh58 : Jvm.Lit.constHeld Z "com/example/task_relay/taskrelay/Scope" 58) (hh60 : Jvm.Lit.constHeld Z "com/example/task_relay/taskrelay/Scope" 60) (hh13 : Jvm.Lit.constHeld Z "com/example/task_relay/taskrelay/ScopeAllowsPinLaw" 13) (X00 : Ext Z.heap h0) (hcw : Jvm.Lit.compactW.before a0 Z = true) (hne : ¬ (wR = wF)) :
    MetFree l x (head1 (Jvm.Cond.code x code maxLocals ret :: ws) room_1) (fun a U => a = #[(.int p0), (.int p1), (.int p2), (.int p3), (.int p4)] ∧ Z.Warmed39 U.vm ∧ U.heap = h0 ∧ IB Z U.vm []) (fun _ _ _ _ _ => True) (fun _ U o U' => ∃ v L, o = .returned v ∧ Qrm0 Z p0 p1 p2 p3 p4 wF wR G1 h0 n0 v U'.heap L ∧ ReturnedEndW U o U' L room_1.cells room_1.slots) := by
  refine MetFree.of_bodySF (plainFor_of_name pn_1) hisR ?_
  intro p e s m args below meth c s₁ Bd hml0 hP hK
  obtain ⟨rfl, hZ, hh, hI⟩ := hP
  have hx := Bd.exec
  have hby := Bd.bytes
  have hml : c.maxLocals = 16 := hml0
  have hown : s.vm.findClass "com/example/task_relay/taskrelay/ScopeAllowsPinLaw" = some m.cls := findClass_of_methodNamed Bd.named
  have hnm := (name_of_methodNamed Bd.named Bd.method).1
  have X0 : Stand p l e room_1 s m #[(.int p0), (.int p1), (.int p2), (.int p3), (.int p4)] below meth c s₁ [] 0 0 := Stand.of_body Bd
  have e0 : s₁.heap = h0 := by rw [← hh, Bd.state]; rfl
  have N0 := Fr.nil h0.size
  have pre0 : ∀ t, Steps p.tables e below (s₁.setTop (mkF m 0 #[.val (.int p0), .val (.int p1), .val (.int p2), .val (.int p3), .val (.int p4), .unset, .unset, .unset, .unset, .unset, .unset, .unset, .unset, .unset, .unset, .unset] [])) t → Steps p.tables e below (s₁.setTop (entryFrame m #[(.int p0), (.int p1), (.int p2), (.int p3), (.int p4)] maxLocals)) t := fun t k => castTop (ef_rm0 m p0 p1 p2 p3 p4) k
  have z179 : @LT.lt Nat _ wF (Array.size h0) := H2.lt
  have z180 : @LT.lt Nat _ wR (Array.size h0) := H3.lt
  have KC0 : Keep h0 h0 [] := Keep.refl _ _
  have hS0 : s.Since s.vm h0.size := (State.WarmedH.refl s).since _
  have pre181 : ∀ t, Steps p.tables e below (s₁.setTop (mkF m 3 #[.val (.int p0), .val (.int p1), .val (.int p2), .val (.int p3), .val (.int p4), .unset, .unset, .unset, .unset, .unset, .unset, .unset, .unset, .unset, .unset, .unset] [(.int (p0 &&& (1 : Int32)))])) t → Steps p.tables e below (s₁.setTop (entryFrame m #[(.int p0), (.int p1), (.int p2), (.int p3), (.int p4)] maxLocals)) t := fun t k => by
    refine pre0 _ ?_
    show Steps p.tables e below (s₁.setTop (mkF m 0 #[.val (.int p0), .val (.int p1), .val (.int p2), .val (.int p3), .val (.int p4), .unset, .unset, .unset, .unset, .unset, .unset, .unset, .unset, .unset, .unset, .unset] [])) _
    refine XS.iloadN X0.here hx rfl (hb hby at_0) rfl ?_
    show Steps p.tables e below (s₁.setTop (mkF m 1 #[.val (.int p0), .val (.int p1), .val (.int p2), .val (.int p3), .val (.int p4), .unset, .unset, .unset, .unset, .unset, .unset, .unset, .unset, .unset, .unset, .unset] [(.int p0)])) _
    refine XS.iconst X0.here hx rfl (hb hby at_1) ?_
    show Steps p.tables e below (s₁.setTop (mkF m 2 #[.val (.int p0), .val (.int p1), .val (.int p2), .val (.int p3), .val (.int p4), .unset, .unset, .unset, .unset, .unset, .unset, .unset, .unset, .unset, .unset, .unset] [(.int (1 : Int32)), (.int p0)])) _
    refine XS.iand X0.here hx rfl (hb hby at_2) rfl ?_
    exact k
  by_cases hc182 : (p0 &&& (1 : Int32)) = (0 : Int32)
  · obtain ⟨_, _, ⟨T183, L183, k183, n183⟩, -, X183, ⟨Lc183, hQ183, l183, y183, z183⟩, st183⟩ := Jvm.LawKit.callS X0 hx (y := (⟨"com/example/task_relay/taskrelay/ScopeAllowsPinLaw", "pick", "(I)C"⟩ : MethodName)) hown (mvT hZ (hw _ (List.mem_of_getElem? (i := 0) rfl))) (mvT hZ (hw _ (List.mem_of_getElem? (i := 1) rfl))) (mvT hZ (hw _ (List.mem_of_getElem? (i := 2) rfl))) (mvT hZ (hw _ (List.mem_of_getElem? (i := 3) rfl))) (by decide) (backOf (W := 0) (rmp l Z a0 hw [] p1 h0 h0.size (by omega)) hZ (hw _ (List.mem_of_getElem? (i := 3) rfl)) (hw _ (List.mem_of_getElem? (i := 2) rfl)) (by decide) (by decide)) (g := (mkF m 24 #[.val (.int p0), .val (.int p1), .val (.int p2), .val (.int p3), .val (.int p4), .val (.int (0 : Int32)), .val (.int ((((p0.toUInt32 >>> ((1 : Int32) &&& 31).toUInt32).toInt32) &&& (7 : Int32)) % (5 : Int32))), .unset, .unset, .unset, .unset, .unset, .unset, .unset, .unset, .unset] [(.int p1)])) rfl (by rw [hml]; rfl) (argsL := [(.int p1)]) (rest := []) (lenOf pd_1 rfl) rfl (by show 2 * 0 + _ ≤ _; exact Nat.le_of_eq rfl) (hb hby at_24) (fun _ _ => ⟨rfl, e0, (by decide : 0 + 0 ≤ _), (by decide : 0 + 0 ≤ _)⟩)
    dsimp only [Pt.U, Pt.locs, Pt.cells, Pt.slots] at X183 l183 y183 z183 st183 hQ183
    subst l183 y183 z183
    obtain ⟨c_183, rfl, N183q, e183, P183_0, P183_1⟩ := hQ183
    have N183 := Fr.app N0 N183q
    obtain ⟨_, _, ⟨T184, L184, k184, n184⟩, -, X184, ⟨Lc184, hQ184, l184, y184, z184⟩, st184⟩ := Jvm.LawKit.callS X183 hx (y := (⟨"com/example/task_relay/taskrelay/ScopeAllowsPinLaw", "pick", "(I)C"⟩ : MethodName)) hown (mvT hZ (hw _ (List.mem_of_getElem? (i := 0) rfl))) (mvT hZ (hw _ (List.mem_of_getElem? (i := 1) rfl))) (mvT hZ (hw _ (List.mem_of_getElem? (i := 2) rfl))) (mvT hZ (hw _ (List.mem_of_getElem? (i := 3) rfl))) (by decide) (backOf (W := 0) (rmp l Z a0 hw [] p2 h0 h0.size (by omega)) hZ (hw _ (List.mem_of_getElem? (i := 3) rfl)) (hw _ (List.mem_of_getElem? (i := 2) rfl)) (by decide) (by decide)) (g := (mkF m 30 #[.val (.int p0), .val (.int p1), .val (.int p2), .val (.int p3), .val (.int p4), .val (.int (0 : Int32)), .val (.int ((((p0.toUInt32 >>> ((1 : Int32) &&& 31).toUInt32).toInt32) &&& (7 : Int32)) % (5 : Int32))), .val (.int c_183), .unset, .unset, .unset, .unset, .unset, .unset, .unset, .unset] [(.int p2)])) rfl (by rw [hml]; rfl) (argsL := [(.int p2)]) (rest := []) (lenOf pd_1 rfl) rfl (by show 2 * 0 + _ ≤ _; exact Nat.le_of_eq rfl) (hb hby at_30) (fun _ _ => ⟨rfl, e183, (by decide : 0 + 0 ≤ _), (by decide : 0 + 0 ≤ _)⟩)
    dsimp only [Pt.U, Pt.locs, Pt.cells, Pt.slots] at X184 l184 y184 z184 st184 hQ184
    subst l184 y184 z184
    obtain ⟨c_184, rfl, N184q, e184, P184_0, P184_1⟩ := hQ184
    have N184 := Fr.app N183 N184q
    obtain ⟨_, _, ⟨T185, L185, k185, n185⟩, -, X185, ⟨Lc185, hQ185, l185, y185, z185⟩, st185⟩ := Jvm.LawKit.callS X184 hx (y := (⟨"com/example/task_relay/taskrelay/ScopeAllowsPinLaw", "pick", "(I)C"⟩ : MethodName)) hown (mvT hZ (hw _ (List.mem_of_getElem? (i := 0) rfl))) (mvT hZ (hw _ (List.mem_of_getElem? (i := 1) rfl))) (mvT hZ (hw _ (List.mem_of_getElem? (i := 2) rfl))) (mvT hZ (hw _ (List.mem_of_getElem? (i := 3) rfl))) (by decide) (backOf (W := 0) (rmp l Z a0 hw [] p3 h0 h0.size (by omega)) hZ (hw _ (List.mem_of_getElem? (i := 3) rfl)) (hw _ (List.mem_of_getElem? (i := 2) rfl)) (by decide) (by decide)) (g := (mkF m 36 #[.val (.int p0), .val (.int p1), .val (.int p2), .val (.int p3), .val (.int p4), .val (.int (0 : Int32)), .val (.int ((((p0.toUInt32 >>> ((1 : Int32) &&& 31).toUInt32).toInt32) &&& (7 : Int32)) % (5 : Int32))), .val (.int c_183), .val (.int c_184), .unset, .unset, .unset, .unset, .unset, .unset, .unset] [(.int p3)])) rfl (by rw [hml]; rfl) (argsL := [(.int p3)]) (rest := []) (lenOf pd_1 rfl) rfl (by show 2 * 0 + _ ≤ _; exact Nat.le_of_eq rfl) (hb hby at_36) (fun _ _ => ⟨rfl, e184, (by decide : 0 + 0 ≤ _), (by decide : 0 + 0 ≤ _)⟩)
    dsimp only [Pt.U, Pt.locs, Pt.cells, Pt.slots] at X185 l185 y185 z185 st185 hQ185
    subst l185 y185 z185
    obtain ⟨c_185, rfl, N185q, e185, P185_0, P185_1⟩ := hQ185
    have N185 := Fr.app N184 N185q
    obtain ⟨_, _, ⟨T186, L186, k186, n186⟩, -, X186, ⟨Lc186, hQ186, l186, y186, z186⟩, st186⟩ := Jvm.LawKit.callS X185 hx (y := (⟨"com/example/task_relay/taskrelay/ScopeAllowsPinLaw", "pick", "(I)C"⟩ : MethodName)) hown (mvT hZ (hw _ (List.mem_of_getElem? (i := 0) rfl))) (mvT hZ (hw _ (List.mem_of_getElem? (i := 1) rfl))) (mvT hZ (hw _ (List.mem_of_getElem? (i := 2) rfl))) (mvT hZ (hw _ (List.mem_of_getElem? (i := 3) rfl))) (by decide) (backOf (W := 0) (rmp l Z a0 hw [] p4 h0 h0.size (by omega)) hZ (hw _ (List.mem_of_getElem? (i := 3) rfl)) (hw _ (List.mem_of_getElem? (i := 2) rfl)) (by decide) (by decide)) (g := (mkF m 43 #[.val (.int p0), .val (.int p1), .val (.int p2), .val (.int p3), .val (.int p4), .val (.int (0 : Int32)), .val (.int ((((p0.toUInt32 >>> ((1 : Int32) &&& 31).toUInt32).toInt32) &&& (7 : Int32)) % (5 : Int32))), .val (.int c_183), .val (.int c_184), .val (.int c_185), .unset, .unset, .unset, .unset, .unset, .unset] [(.int p4)])) rfl (by rw [hml]; rfl) (argsL := [(.int p4)]) (rest := []) (lenOf pd_1 rfl) rfl (by show 2 * 0 + _ ≤ _; exact Nat.le_of_eq rfl) (hb hby at_43) (fun _ _ => ⟨rfl, e185, (by decide : 0 + 0 ≤ _), (by decide : 0 + 0 ≤ _)⟩)
    dsimp only [Pt.U, Pt.locs, Pt.cells, Pt.slots] at X186 l186 y186 z186 st186 hQ186
    subst l186 y186 z186
    obtain ⟨c_186, rfl, N186q, e186, P186_0, P186_1⟩ := hQ186
    have N186 := Fr.app N185 N186q
    have pre187 : ∀ t, Steps p.tables e below (T186.setTop (mkF m 48 #[.val (.int p0), .val (.int p1), .val (.int p2), .val (.int p3), .val (.int p4), .val (.int (0 : Int32)), .val (.int ((((p0.toUInt32 >>> ((1 : Int32) &&& 31).toUInt32).toInt32) &&& (7 : Int32)) % (5 : Int32))), .val (.int c_183), .val (.int c_184), .val (.int c_185), .val (.int c_186), .unset, .unset, .unset, .unset, .unset] [])) t → Steps p.tables e below (s₁.setTop (entryFrame m #[(.int p0), (.int p1), (.int p2), (.int p3), (.int p4)] maxLocals)) t := fun t k => by
      refine pre181 _ ?_
      show Steps p.tables e below (s₁.setTop (mkF m 3 #[.val (.int p0), .val (.int p1), .val (.int p2), .val (.int p3), .val (.int p4), .unset, .unset, .unset, .unset, .unset, .unset, .unset, .unset, .unset, .unset, .unset] [(.int (p0 &&& (1 : Int32)))])) _
      refine XS.ifYes X0.here hx rfl (pc0 := 3) (pc' := 10) rfl (hb hby at_3) rfl ((if0 _ _).trans (teq (hc182 : (p0 &&& (1 : Int32)) = (0 : Int32))).1) (by decide) (by decide) ?_
      show Steps p.tables e below (s₁.setTop (mkF m 10 #[.val (.int p0), .val (.int p1), .val (.int p2), .val (.int p3), .val (.int p4), .unset, .unset, .unset, .unset, .unset, .unset, .unset, .unset, .unset, .unset, .unset] [])) _
      refine XS.iconst X0.here hx rfl (hb hby at_10) ?_
      show Steps p.tables e below (s₁.setTop (mkF m 11 #[.val (.int p0), .val (.int p1), .val (.int p2), .val (.int p3), .val (.int p4), .unset, .unset, .unset, .unset, .unset, .unset, .unset, .unset, .unset, .unset, .unset] [(.int (0 : Int32))])) _
      refine XS.istore X0.here hx rfl (hb hby at_11) rfl (l' := #[.val (.int p0), .val (.int p1), .val (.int p2), .val (.int p3), .val (.int p4), .val (.int (0 : Int32)), .unset, .unset, .unset, .unset, .unset, .unset, .unset, .unset, .unset, .unset]) rfl ?_
      show Steps p.tables e below (s₁.setTop (mkF m 13 #[.val (.int p0), .val (.int p1), .val (.int p2), .val (.int p3), .val (.int p4), .val (.int (0 : Int32)), .unset, .unset, .unset, .unset, .unset, .unset, .unset, .unset, .unset, .unset] [])) _
      refine XS.iloadN X0.here hx rfl (hb hby at_13) rfl ?_
      show Steps p.tables e below (s₁.setTop (mkF m 14 #[.val (.int p0), .val (.int p1), .val (.int p2), .val (.int p3), .val (.int p4), .val (.int (0 : Int32)), .unset, .unset, .unset, .unset, .unset, .unset, .unset, .unset, .unset, .unset] [(.int p0)])) _
      refine XS.iconst X0.here hx rfl (hb hby at_14) ?_
      show Steps p.tables e below (s₁.setTop (mkF m 15 #[.val (.int p0), .val (.int p1), .val (.int p2), .val (.int p3), .val (.int p4), .val (.int (0 : Int32)), .unset, .unset, .unset, .unset, .unset, .unset, .unset, .unset, .unset, .unset] [(.int (1 : Int32)), (.int p0)])) _
      refine XS.iushr X0.here hx rfl (hb hby at_15) rfl ?_
      show Steps p.tables e below (s₁.setTop (mkF m 16 #[.val (.int p0), .val (.int p1), .val (.int p2), .val (.int p3), .val (.int p4), .val (.int (0 : Int32)), .unset, .unset, .unset, .unset, .unset, .unset, .unset, .unset, .unset, .unset] [(.int ((p0.toUInt32 >>> ((1 : Int32) &&& 31).toUInt32).toInt32))])) _
      refine XS.bipush X0.here hx rfl (hb hby at_16) ?_
      show Steps p.tables e below (s₁.setTop (mkF m 18 #[.val (.int p0), .val (.int p1), .val (.int p2), .val (.int p3), .val (.int p4), .val (.int (0 : Int32)), .unset, .unset, .unset, .unset, .unset, .unset, .unset, .unset, .unset, .unset] [(.int (7 : Int32)), (.int ((p0.toUInt32 >>> ((1 : Int32) &&& 31).toUInt32).toInt32))])) _
      refine XS.iand X0.here hx rfl (hb hby at_18) rfl ?_
      show Steps p.tables e below (s₁.setTop (mkF m 19 #[.val (.int p0), .val (.int p1), .val (.int p2), .val (.int p3), .val (.int p4), .val (.int (0 : Int32)), .unset, .unset, .unset, .unset, .unset, .unset, .unset, .unset, .unset, .unset] [(.int (((p0.toUInt32 >>> ((1 : Int32) &&& 31).toUInt32).toInt32) &&& (7 : Int32)))])) _
      refine XS.iconst X0.here hx rfl (hb hby at_19) ?_
      show Steps p.tables e below (s₁.setTop (mkF m 20 #[.val (.int p0), .val (.int p1), .val (.int p2), .val (.int p3), .val (.int p4), .val (.int (0 : Int32)), .unset, .unset, .unset, .unset, .unset, .unset, .unset, .unset, .unset, .unset] [(.int (5 : Int32)), (.int (((p0.toUInt32 >>> ((1 : Int32) &&& 31).toUInt32).toInt32) &&& (7 : Int32)))])) _
      refine iremM (g := (mkF m 20 #[.val (.int p0), .val (.int p1), .val (.int p2), .val (.int p3), .val (.int p4), .val (.int (0 : Int32)), .unset, .unset, .unset, .unset, .unset, .unset, .unset, .unset, .unset, .unset] [(.int (5 : Int32)), (.int (((p0.toUInt32 >>> ((1 : Int32) &&& 31).toUInt32).toInt32) &&& (7 : Int32)))])) X0 hx rfl (hb hby at_20) rfl (by decide) ?_
      show Steps p.tables e below (s₁.setTop (mkF m 21 #[.val (.int p0), .val (.int p1), .val (.int p2), .val (.int p3), .val (.int p4), .val (.int (0 : Int32)), .unset, .unset, .unset, .unset, .unset, .unset, .unset, .unset, .unset, .unset] [(.int ((((p0.toUInt32 >>> ((1 : Int32) &&& 31).toUInt32).toInt32) &&& (7 : Int32)) % (5 : Int32)))])) _
      refine XS.istore X0.here hx rfl (hb hby at_21) rfl (l' := #[.val (.int p0), .val (.int p1), .val (.int p2), .val (.int p3), .val (.int p4), .val (.int (0 : Int32)), .val (.int ((((p0.toUInt32 >>> ((1 : Int32) &&& 31).toUInt32).toInt32) &&& (7 : Int32)) % (5 : Int32))), .unset, .unset, .unset, .unset, .unset, .unset, .unset, .unset, .unset]) rfl ?_
      show Steps p.tables e below (s₁.setTop (mkF m 23 #[.val (.int p0), .val (.int p1), .val (.int p2), .val (.int p3), .val (.int p4), .val (.int (0 : Int32)), .val (.int ((((p0.toUInt32 >>> ((1 : Int32) &&& 31).toUInt32).toInt32) &&& (7 : Int32)) % (5 : Int32))), .unset, .unset, .unset, .unset, .unset, .unset, .unset, .unset, .unset] [])) _
      refine XS.iloadN X0.here hx rfl (hb hby at_23) rfl ?_
      show Steps p.tables e below (s₁.setTop (mkF m 24 #[.val (.int p0), .val (.int p1), .val (.int p2), .val (.int p3), .val (.int p4), .val (.int (0 : Int32)), .val (.int ((((p0.toUInt32 >>> ((1 : Int32) &&& 31).toUInt32).toInt32) &&& (7 : Int32)) % (5 : Int32))), .unset, .unset, .unset, .unset, .unset, .unset, .unset, .unset, .unset] [(.int p1)])) _
      refine st183 _ ?_
      show Steps p.tables e below (T183.setTop (mkF m 27 #[.val (.int p0), .val (.int p1), .val (.int p2), .val (.int p3), .val (.int p4), .val (.int (0 : Int32)), .val (.int ((((p0.toUInt32 >>> ((1 : Int32) &&& 31).toUInt32).toInt32) &&& (7 : Int32)) % (5 : Int32))), .unset, .unset, .unset, .unset, .unset, .unset, .unset, .unset, .unset] [(.int c_183)])) _
      refine XS.istore X183.here hx rfl (hb hby at_27) rfl (l' := #[.val (.int p0), .val (.int p1), .val (.int p2), .val (.int p3), .val (.int p4), .val (.int (0 : Int32)), .val (.int ((((p0.toUInt32 >>> ((1 : Int32) &&& 31).toUInt32).toInt32) &&& (7 : Int32)) % (5 : Int32))), .val (.int c_183), .unset, .unset, .unset, .unset, .unset, .unset, .unset, .unset]) rfl ?_
      show Steps p.tables e below (T183.setTop (mkF m 29 #[.val (.int p0), .val (.int p1), .val (.int p2), .val (.int p3), .val (.int p4), .val (.int (0 : Int32)), .val (.int ((((p0.toUInt32 >>> ((1 : Int32) &&& 31).toUInt32).toInt32) &&& (7 : Int32)) % (5 : Int32))), .val (.int c_183), .unset, .unset, .unset, .unset, .unset, .unset, .unset, .unset] [])) _
      refine XS.iloadN X183.here hx rfl (hb hby at_29) rfl ?_
      show Steps p.tables e below (T183.setTop (mkF m 30 #[.val (.int p0), .val (.int p1), .val (.int p2), .val (.int p3), .val (.int p4), .val (.int (0 : Int32)), .val (.int ((((p0.toUInt32 >>> ((1 : Int32) &&& 31).toUInt32).toInt32) &&& (7 : Int32)) % (5 : Int32))), .val (.int c_183), .unset, .unset, .unset, .unset, .unset, .unset, .unset, .unset] [(.int p2)])) _
      refine st184 _ ?_
      show Steps p.tables e below (T184.setTop (mkF m 33 #[.val (.int p0), .val (.int p1), .val (.int p2), .val (.int p3), .val (.int p4), .val (.int (0 : Int32)), .val (.int ((((p0.toUInt32 >>> ((1 : Int32) &&& 31).toUInt32).toInt32) &&& (7 : Int32)) % (5 : Int32))), .val (.int c_183), .unset, .unset, .unset, .unset, .unset, .unset, .unset, .unset] [(.int c_184)])) _
      refine XS.istore X184.here hx rfl (hb hby at_33) rfl (l' := #[.val (.int p0), .val (.int p1), .val (.int p2), .val (.int p3), .val (.int p4), .val (.int (0 : Int32)), .val (.int ((((p0.toUInt32 >>> ((1 : Int32) &&& 31).toUInt32).toInt32) &&& (7 : Int32)) % (5 : Int32))), .val (.int c_183), .val (.int c_184), .unset, .unset, .unset, .unset, .unset, .unset, .unset]) rfl ?_
      show Steps p.tables e below (T184.setTop (mkF m 35 #[.val (.int p0), .val (.int p1), .val (.int p2), .val (.int p3), .val (.int p4), .val (.int (0 : Int32)), .val (.int ((((p0.toUInt32 >>> ((1 : Int32) &&& 31).toUInt32).toInt32) &&& (7 : Int32)) % (5 : Int32))), .val (.int c_183), .val (.int c_184), .unset, .unset, .unset, .unset, .unset, .unset, .unset] [])) _
      refine XS.iloadN X184.here hx rfl (hb hby at_35) rfl ?_
      show Steps p.tables e below (T184.setTop (mkF m 36 #[.val (.int p0), .val (.int p1), .val (.int p2), .val (.int p3), .val (.int p4), .val (.int (0 : Int32)), .val (.int ((((p0.toUInt32 >>> ((1 : Int32) &&& 31).toUInt32).toInt32) &&& (7 : Int32)) % (5 : Int32))), .val (.int c_183), .val (.int c_184), .unset, .unset, .unset, .unset, .unset, .unset, .unset] [(.int p3)])) _
      refine st185 _ ?_
      show Steps p.tables e below (T185.setTop (mkF m 39 #[.val (.int p0), .val (.int p1), .val (.int p2), .val (.int p3), .val (.int p4), .val (.int (0 : Int32)), .val (.int ((((p0.toUInt32 >>> ((1 : Int32) &&& 31).toUInt32).toInt32) &&& (7 : Int32)) % (5 : Int32))), .val (.int c_183), .val (.int c_184), .unset, .unset, .unset, .unset, .unset, .unset, .unset] [(.int c_185)])) _
      refine XS.istore X185.here hx rfl (hb hby at_39) rfl (l' := #[.val (.int p0), .val (.int p1), .val (.int p2), .val (.int p3), .val (.int p4), .val (.int (0 : Int32)), .val (.int ((((p0.toUInt32 >>> ((1 : Int32) &&& 31).toUInt32).toInt32) &&& (7 : Int32)) % (5 : Int32))), .val (.int c_183), .val (.int c_184), .val (.int c_185), .unset, .unset, .unset, .unset, .unset, .unset]) rfl ?_
      show Steps p.tables e below (T185.setTop (mkF m 41 #[.val (.int p0), .val (.int p1), .val (.int p2), .val (.int p3), .val (.int p4), .val (.int (0 : Int32)), .val (.int ((((p0.toUInt32 >>> ((1 : Int32) &&& 31).toUInt32).toInt32) &&& (7 : Int32)) % (5 : Int32))), .val (.int c_183), .val (.int c_184), .val (.int c_185), .unset, .unset, .unset, .unset, .unset, .unset] [])) _
      refine XS.iload X185.here hx rfl (hb hby at_41) rfl ?_
      show Steps p.tables e below (T185.setTop (mkF m 43 #[.val (.int p0), .val (.int p1), .val (.int p2), .val (.int p3), .val (.int p4), .val (.int (0 : Int32)), .val (.int ((((p0.toUInt32 >>> ((1 : Int32) &&& 31).toUInt32).toInt32) &&& (7 : Int32)) % (5 : Int32))), .val (.int c_183), .val (.int c_184), .val (.int c_185), .unset, .unset, .unset, .unset, .unset, .unset] [(.int p4)])) _
      refine st186 _ ?_
      show Steps p.tables e below (T186.setTop (mkF m 46 #[.val (.int p0), .val (.int p1), .val (.int p2), .val (.int p3), .val (.int p4), .val (.int (0 : Int32)), .val (.int ((((p0.toUInt32 >>> ((1 : Int32) &&& 31).toUInt32).toInt32) &&& (7 : Int32)) % (5 : Int32))), .val (.int c_183), .val (.int c_184), .val (.int c_185), .unset, .unset, .unset, .unset, .unset, .unset] [(.int c_186)])) _
      refine XS.istore X186.here hx rfl (hb hby at_46) rfl (l' := #[.val (.int p0), .val (.int p1), .val (.int p2), .val (.int p3), .val (.int p4), .val (.int (0 : Int32)), .val (.int ((((p0.toUInt32 >>> ((1 : Int32) &&& 31).toUInt32).toInt32) &&& (7 : Int32)) % (5 : Int32))), .val (.int c_183), .val (.int c_184), .val (.int c_185), .val (.int c_186), .unset, .unset, .unset, .unset, .unset]) rfl ?_
      exact k
    rcases own_mod5 ((p0.toUInt32 >>> ((1 : Int32) &&& 31).toUInt32).toInt32) with hv188 | hv188 | hv188 | hv188 | hv188
    · have pre189 : ∀ t, Steps p.tables e below (T186.setTop (mkF m 48 #[.val (.int p0), .val (.int p1), .val (.int p2), .val (.int p3), .val (.int p4), .val (.int (0 : Int32)), .val (.int (0 : Int32)), .val (.int c_183), .val (.int c_184), .val (.int c_185), .val (.int c_186), .unset, .unset, .unset, .unset, .unset] [])) t → Steps p.tables e below (s₁.setTop (entryFrame m #[(.int p0), (.int p1), (.int p2), (.int p3), (.int p4)] maxLocals)) t := fun t k => pre187 t (by rw [hv188]; exact k)
      obtain ⟨a190, T190, h190, k190, bv190, kb190, X190, e190, E190, hS190, z190k, hZ190, hw190, PE190, PC190, PV190, PA190, z190a, z190b, hI190, Lt190, st190⟩ := ldcSVL (s := s) (vm0 := s.vm) X186 hx hZ hown (hw _ (List.mem_of_getElem? (i := 4) rfl)) (fun d hd => hw d (own_sa d hd)) e186 hS0 (by omega) (by rw [hh]; exact N186) (fun b cl q => by rw [hh]; exact X00.2 b cl q) hI (by decide) hh13 hcw (vs := []) (z := (0 : Int32)) ⟨by decide, rfl⟩ (by decide) rfl (g := (mkF m 53 #[.val (.int p0), .val (.int p1), .val (.int p2), .val (.int p3), .val (.int p4), .val (.int (0 : Int32)), .val (.int (0 : Int32)), .val (.int c_183), .val (.int c_184), .val (.int c_185), .val (.int c_186), .unset, .unset, .unset, .unset, .unset] [])) rfl (hb hby at_53) (n := 0) (by decide) (by decide) (by decide) (by decide)
      have z191 := E190.1
      have KC192 : Keep h0 h190 [] := KC0.ext E190
      have z193 : @LT.lt Nat _ a190 (Array.size h190) := PE190.lt
      have z194 : @LT.lt Nat _ bv190 (Array.size h190) := PA190.lt
      have Fc195 := (H1.ext E190)
      obtain ⟨T196, X196, e196, st196⟩ := getS2 X190 hx hZ190 hw190 (host := "") (Or.inl (hw _ (List.mem_of_getElem? (i := 12) rfl))) Via.refl e190 Fc195 (g := (mkF m 196 #[.val (.int p0), .val (.int p1), .val (.int p2), .val (.int p3), .val (.int p4), .val (.int (0 : Int32)), .val (.int (0 : Int32)), .val (.int c_183), .val (.int c_184), .val (.int c_185), .val (.int c_186), .val (.ref a190), .unset, .unset, .unset, .unset] [])) rfl (hb hby at_196)
      have Xo197 : Ext Z.heap h190 := own_extT X00 (own_ext KC192)
      have Fc198 := (H0.ext E190)
      have Fc199 := (H4.ext E190)
      have z201 := congrArg Array.size e196
      have Fc202 := (H3.ext E190)
      obtain ⟨cq200, kq200, qa200, qb200, qc200⟩ := isOf hZ190 e196 Fc202
      obtain ⟨_, _, ⟨T200, L200, k200, n200⟩, -, Y200, hY200, gY200, ⟨Lc200, hQ200, l200, y200, z200⟩, st200⟩ := X196.virtualBackS hx (y := (⟨"com/example/task_relay/taskrelay/Scope", "allows", "(Ljava/lang/String;)Z"⟩ : MethodName)) (z := (⟨"com/example/task_relay/taskrelay/Scope", "allows", "(Ljava/lang/String;)Z"⟩ : MethodName)) hw190 (mvT hZ190 (hw _ (List.mem_of_getElem? (i := 15) rfl))) (mvT hZ190 (hw _ (List.mem_of_getElem? (i := 16) rfl))) (notFace_of_selects (args := #[]) (mvT hZ190 (hw _ (List.mem_of_getElem? (i := 18) rfl)))) (mvT hZ190 (hw _ (List.mem_of_getElem? (i := 18) rfl))) (mvT hZ190 (hw _ (List.mem_of_getElem? (i := 17) rfl))) (by decide) (backOfI (W := 0) (rmar0 l Z a0 hw [] wR a190 wF G1 bv190 kb190 h190 h0.size (by omega) Fc198 Fc199 (hG1 : ¬ (G1 = (0 : Int32))) (hh58 : Jvm.Lit.constHeld Z "com/example/task_relay/taskrelay/Scope" 58) (hh60 : Jvm.Lit.constHeld Z "com/example/task_relay/taskrelay/Scope" 60) (Xo197 : Ext Z.heap h190) (hcw : Jvm.Lit.compactW.before a0 Z = true) (hne : ¬ (wR = wF)) PE190 PC190 PV190 PA190) hZ190 (hw _ (List.mem_of_getElem? (i := 19) rfl)) (hw _ (List.mem_of_getElem? (i := 13) rfl)) (by decide) (by decide)) qa200 qc200 (g := (mkF m 302 #[.val (.int p0), .val (.int p1), .val (.int p2), .val (.int p3), .val (.int p4), .val (.int (0 : Int32)), .val (.int (0 : Int32)), .val (.int c_183), .val (.int c_184), .val (.int c_185), .val (.int c_186), .val (.ref a190), .val (.ref wR), .val (.int (0 : Int32)), .val (.int (0 : Int32)), .val (.int (0 : Int32))] [(.ref a190), (.ref wR)])) rfl (by rw [hml]; rfl) (Steps.refl _) (argsL := [(.ref a190)]) (rest := []) (lenOf pd_2 rfl) rfl (by show 2 * 0 + _ ≤ _; exact Nat.le_of_eq rfl) (hb hby at_302) (fun _ Hw => ⟨rfl, e196, (by decide : 2 + 4 ≤ _), (by decide : 4 + 36 ≤ _), own_IBw hI190 Hw⟩)
      dsimp only [Pt.U, Pt.locs, Pt.cells, Pt.slots] at Y200 hY200 gY200 l200 y200 z200 st200 hQ200
      subst l200 y200 z200
      obtain ⟨X200, hS200, hZ200, hw200⟩ := rebS (s := s) (vm0 := T190.vm) hS190 (by omega : k190 ≤ T196.heap.size) Y200 hY200 gY200 hZ190 hw190
      obtain ⟨rfl, N200q, K200⟩ := hQ200
      have N200 := Fr.app N186 N200q
      have z203 := K200.1
      have KC204 : Keep h0 T200.heap [] := KC192.trans K200 all0
      obtain ⟨fs, hr, hrun, hended, rE1, rE2, rE3, rE4⟩ := leaveW (s := s) (vm₁ := T200.vm) X200 hS200 (by omega : T200.heap.size ≤ T200.heap.size) (v := some (.int (1 : Int32))) (fun h => by rw [Bd.returns] at h; cases h)
      refine ⟨_, _, pre189 _ ?_, hrun, hended, _, _, rfl, ?_, rE1, rE2, rE3, rE4.mono (by decide) (by decide)⟩
      · show Steps p.tables e below (T186.setTop (mkF m 48 #[.val (.int p0), .val (.int p1), .val (.int p2), .val (.int p3), .val (.int p4), .val (.int (0 : Int32)), .val (.int (0 : Int32)), .val (.int c_183), .val (.int c_184), .val (.int c_185), .val (.int c_186), .unset, .unset, .unset, .unset, .unset] [])) _
        refine XS.iload X186.here hx rfl (hb hby at_48) rfl ?_
        show Steps p.tables e below (T186.setTop (mkF m 50 #[.val (.int p0), .val (.int p1), .val (.int p2), .val (.int p3), .val (.int p4), .val (.int (0 : Int32)), .val (.int (0 : Int32)), .val (.int c_183), .val (.int c_184), .val (.int c_185), .val (.int c_186), .unset, .unset, .unset, .unset, .unset] [(.int (0 : Int32))])) _
        refine XS.ifNo X186.here hx rfl (hb hby at_50) rfl ((if0 _ _).trans (teq (by decide : (0 : Int32) = (0 : Int32))).2) ?_
        show Steps p.tables e below (T186.setTop (mkF m 53 #[.val (.int p0), .val (.int p1), .val (.int p2), .val (.int p3), .val (.int p4), .val (.int (0 : Int32)), .val (.int (0 : Int32)), .val (.int c_183), .val (.int c_184), .val (.int c_185), .val (.int c_186), .unset, .unset, .unset, .unset, .unset] [])) _
        refine st190 _ ?_
        show Steps p.tables e below (T190.setTop (mkF m 55 #[.val (.int p0), .val (.int p1), .val (.int p2), .val (.int p3), .val (.int p4), .val (.int (0 : Int32)), .val (.int (0 : Int32)), .val (.int c_183), .val (.int c_184), .val (.int c_185), .val (.int c_186), .unset, .unset, .unset, .unset, .unset] [(.ref a190)])) _
        refine XS.astore X190.here hx rfl (hb hby at_55) rfl rfl (l' := #[.val (.int p0), .val (.int p1), .val (.int p2), .val (.int p3), .val (.int p4), .val (.int (0 : Int32)), .val (.int (0 : Int32)), .val (.int c_183), .val (.int c_184), .val (.int c_185), .val (.int c_186), .val (.ref a190), .unset, .unset, .unset, .unset]) rfl ?_
        show Steps p.tables e below (T190.setTop (mkF m 57 #[.val (.int p0), .val (.int p1), .val (.int p2), .val (.int p3), .val (.int p4), .val (.int (0 : Int32)), .val (.int (0 : Int32)), .val (.int c_183), .val (.int c_184), .val (.int c_185), .val (.int c_186), .val (.ref a190), .unset, .unset, .unset, .unset] [])) _
        refine XS.goto X190.here hx rfl (pc0 := 57) (pc' := 185) rfl (hb hby at_57) (by decide) (by decide) ?_
        show Steps p.tables e below (T190.setTop (mkF m 185 #[.val (.int p0), .val (.int p1), .val (.int p2), .val (.int p3), .val (.int p4), .val (.int (0 : Int32)), .val (.int (0 : Int32)), .val (.int c_183), .val (.int c_184), .val (.int c_185), .val (.int c_186), .val (.ref a190), .unset, .unset, .unset, .unset] [])) _
        refine XS.iload X190.here hx rfl (hb hby at_185) rfl ?_
        show Steps p.tables e below (T190.setTop (mkF m 187 #[.val (.int p0), .val (.int p1), .val (.int p2), .val (.int p3), .val (.int p4), .val (.int (0 : Int32)), .val (.int (0 : Int32)), .val (.int c_183), .val (.int c_184), .val (.int c_185), .val (.int c_186), .val (.ref a190), .unset, .unset, .unset, .unset] [(.int (0 : Int32))])) _
        refine XS.ifYes X190.here hx rfl (pc0 := 187) (pc' := 196) rfl (hb hby at_187) rfl ((if0 _ _).trans (teq (by decide : (0 : Int32) = (0 : Int32))).1) (by decide) (by decide) ?_
        show Steps p.tables e below (T190.setTop (mkF m 196 #[.val (.int p0), .val (.int p1), .val (.int p2), .val (.int p3), .val (.int p4), .val (.int (0 : Int32)), .val (.int (0 : Int32)), .val (.int c_183), .val (.int c_184), .val (.int c_185), .val (.int c_186), .val (.ref a190), .unset, .unset, .unset, .unset] [])) _
        refine st196 _ ?_
        show Steps p.tables e below (T196.setTop (mkF m 199 #[.val (.int p0), .val (.int p1), .val (.int p2), .val (.int p3), .val (.int p4), .val (.int (0 : Int32)), .val (.int (0 : Int32)), .val (.int c_183), .val (.int c_184), .val (.int c_185), .val (.int c_186), .val (.ref a190), .unset, .unset, .unset, .unset] [(.ref wR)])) _
        refine XS.astore X196.here hx rfl (hb hby at_199) rfl rfl (l' := #[.val (.int p0), .val (.int p1), .val (.int p2), .val (.int p3), .val (.int p4), .val (.int (0 : Int32)), .val (.int (0 : Int32)), .val (.int c_183), .val (.int c_184), .val (.int c_185), .val (.int c_186), .val (.ref a190), .val (.ref wR), .unset, .unset, .unset]) rfl ?_
        show Steps p.tables e below (T196.setTop (mkF m 201 #[.val (.int p0), .val (.int p1), .val (.int p2), .val (.int p3), .val (.int p4), .val (.int (0 : Int32)), .val (.int (0 : Int32)), .val (.int c_183), .val (.int c_184), .val (.int c_185), .val (.int c_186), .val (.ref a190), .val (.ref wR), .unset, .unset, .unset] [])) _
        refine XS.iload X196.here hx rfl (hb hby at_201) rfl ?_
        show Steps p.tables e below (T196.setTop (mkF m 203 #[.val (.int p0), .val (.int p1), .val (.int p2), .val (.int p3), .val (.int p4), .val (.int (0 : Int32)), .val (.int (0 : Int32)), .val (.int c_183), .val (.int c_184), .val (.int c_185), .val (.int c_186), .val (.ref a190), .val (.ref wR), .unset, .unset, .unset] [(.int (0 : Int32))])) _
        refine XS.iconst X196.here hx rfl (hb hby at_203) ?_
        show Steps p.tables e below (T196.setTop (mkF m 204 #[.val (.int p0), .val (.int p1), .val (.int p2), .val (.int p3), .val (.int p4), .val (.int (0 : Int32)), .val (.int (0 : Int32)), .val (.int c_183), .val (.int c_184), .val (.int c_185), .val (.int c_186), .val (.ref a190), .val (.ref wR), .unset, .unset, .unset] [(.int (3 : Int32)), (.int (0 : Int32))])) _
        refine XS.icmpYes X196.here hx rfl (pc0 := 204) (pc' := 232) rfl (hb hby at_204) rfl (feq (by decide : ¬ ((0 : Int32) = (3 : Int32)))).2 (by decide) (by decide) ?_
        show Steps p.tables e below (T196.setTop (mkF m 232 #[.val (.int p0), .val (.int p1), .val (.int p2), .val (.int p3), .val (.int p4), .val (.int (0 : Int32)), .val (.int (0 : Int32)), .val (.int c_183), .val (.int c_184), .val (.int c_185), .val (.int c_186), .val (.ref a190), .val (.ref wR), .unset, .unset, .unset] [])) _
        refine XS.iconst X196.here hx rfl (hb hby at_232) ?_
        show Steps p.tables e below (T196.setTop (mkF m 233 #[.val (.int p0), .val (.int p1), .val (.int p2), .val (.int p3), .val (.int p4), .val (.int (0 : Int32)), .val (.int (0 : Int32)), .val (.int c_183), .val (.int c_184), .val (.int c_185), .val (.int c_186), .val (.ref a190), .val (.ref wR), .unset, .unset, .unset] [(.int (0 : Int32))])) _
        refine XS.istore X196.here hx rfl (hb hby at_233) rfl (l' := #[.val (.int p0), .val (.int p1), .val (.int p2), .val (.int p3), .val (.int p4), .val (.int (0 : Int32)), .val (.int (0 : Int32)), .val (.int c_183), .val (.int c_184), .val (.int c_185), .val (.int c_186), .val (.ref a190), .val (.ref wR), .val (.int (0 : Int32)), .unset, .unset]) rfl ?_
        show Steps p.tables e below (T196.setTop (mkF m 235 #[.val (.int p0), .val (.int p1), .val (.int p2), .val (.int p3), .val (.int p4), .val (.int (0 : Int32)), .val (.int (0 : Int32)), .val (.int c_183), .val (.int c_184), .val (.int c_185), .val (.int c_186), .val (.ref a190), .val (.ref wR), .val (.int (0 : Int32)), .unset, .unset] [])) _
        refine XS.iload X196.here hx rfl (hb hby at_235) rfl ?_
        show Steps p.tables e below (T196.setTop (mkF m 237 #[.val (.int p0), .val (.int p1), .val (.int p2), .val (.int p3), .val (.int p4), .val (.int (0 : Int32)), .val (.int (0 : Int32)), .val (.int c_183), .val (.int c_184), .val (.int c_185), .val (.int c_186), .val (.ref a190), .val (.ref wR), .val (.int (0 : Int32)), .unset, .unset] [(.int (0 : Int32))])) _
        refine XS.iconst X196.here hx rfl (hb hby at_237) ?_
        show Steps p.tables e below (T196.setTop (mkF m 238 #[.val (.int p0), .val (.int p1), .val (.int p2), .val (.int p3), .val (.int p4), .val (.int (0 : Int32)), .val (.int (0 : Int32)), .val (.int c_183), .val (.int c_184), .val (.int c_185), .val (.int c_186), .val (.ref a190), .val (.ref wR), .val (.int (0 : Int32)), .unset, .unset] [(.int (4 : Int32)), (.int (0 : Int32))])) _
        refine XS.icmpYes X196.here hx rfl (pc0 := 238) (pc' := 273) rfl (hb hby at_238) rfl (feq (by decide : ¬ ((0 : Int32) = (4 : Int32)))).2 (by decide) (by decide) ?_
        show Steps p.tables e below (T196.setTop (mkF m 273 #[.val (.int p0), .val (.int p1), .val (.int p2), .val (.int p3), .val (.int p4), .val (.int (0 : Int32)), .val (.int (0 : Int32)), .val (.int c_183), .val (.int c_184), .val (.int c_185), .val (.int c_186), .val (.ref a190), .val (.ref wR), .val (.int (0 : Int32)), .unset, .unset] [])) _
        refine XS.iconst X196.here hx rfl (hb hby at_273) ?_
        show Steps p.tables e below (T196.setTop (mkF m 274 #[.val (.int p0), .val (.int p1), .val (.int p2), .val (.int p3), .val (.int p4), .val (.int (0 : Int32)), .val (.int (0 : Int32)), .val (.int c_183), .val (.int c_184), .val (.int c_185), .val (.int c_186), .val (.ref a190), .val (.ref wR), .val (.int (0 : Int32)), .unset, .unset] [(.int (0 : Int32))])) _
        refine XS.istore X196.here hx rfl (hb hby at_274) rfl (l' := #[.val (.int p0), .val (.int p1), .val (.int p2), .val (.int p3), .val (.int p4), .val (.int (0 : Int32)), .val (.int (0 : Int32)), .val (.int c_183), .val (.int c_184), .val (.int c_185), .val (.int c_186), .val (.ref a190), .val (.ref wR), .val (.int (0 : Int32)), .val (.int (0 : Int32)), .unset]) rfl ?_
        show Steps p.tables e below (T196.setTop (mkF m 276 #[.val (.int p0), .val (.int p1), .val (.int p2), .val (.int p3), .val (.int p4), .val (.int (0 : Int32)), .val (.int (0 : Int32)), .val (.int c_183), .val (.int c_184), .val (.int c_185), .val (.int c_186), .val (.ref a190), .val (.ref wR), .val (.int (0 : Int32)), .val (.int (0 : Int32)), .unset] [])) _
        refine XS.iload X196.here hx rfl (hb hby at_276) rfl ?_
        show Steps p.tables e below (T196.setTop (mkF m 278 #[.val (.int p0), .val (.int p1), .val (.int p2), .val (.int p3), .val (.int p4), .val (.int (0 : Int32)), .val (.int (0 : Int32)), .val (.int c_183), .val (.int c_184), .val (.int c_185), .val (.int c_186), .val (.ref a190), .val (.ref wR), .val (.int (0 : Int32)), .val (.int (0 : Int32)), .unset] [(.int (0 : Int32))])) _
        refine XS.ifNo X196.here hx rfl (hb hby at_278) rfl ((if0 _ _).trans (teq (by decide : (0 : Int32) = (0 : Int32))).2) ?_
        show Steps p.tables e below (T196.setTop (mkF m 281 #[.val (.int p0), .val (.int p1), .val (.int p2), .val (.int p3), .val (.int p4), .val (.int (0 : Int32)), .val (.int (0 : Int32)), .val (.int c_183), .val (.int c_184), .val (.int c_185), .val (.int c_186), .val (.ref a190), .val (.ref wR), .val (.int (0 : Int32)), .val (.int (0 : Int32)), .unset] [])) _
        refine XS.iload X196.here hx rfl (hb hby at_281) rfl ?_
        show Steps p.tables e below (T196.setTop (mkF m 283 #[.val (.int p0), .val (.int p1), .val (.int p2), .val (.int p3), .val (.int p4), .val (.int (0 : Int32)), .val (.int (0 : Int32)), .val (.int c_183), .val (.int c_184), .val (.int c_185), .val (.int c_186), .val (.ref a190), .val (.ref wR), .val (.int (0 : Int32)), .val (.int (0 : Int32)), .unset] [(.int (0 : Int32))])) _
        refine XS.ifNo X196.here hx rfl (hb hby at_283) rfl ((if0 _ _).trans (teq (by decide : (0 : Int32) = (0 : Int32))).2) ?_
        show Steps p.tables e below (T196.setTop (mkF m 286 #[.val (.int p0), .val (.int p1), .val (.int p2), .val (.int p3), .val (.int p4), .val (.int (0 : Int32)), .val (.int (0 : Int32)), .val (.int c_183), .val (.int c_184), .val (.int c_185), .val (.int c_186), .val (.ref a190), .val (.ref wR), .val (.int (0 : Int32)), .val (.int (0 : Int32)), .unset] [])) _
        refine XS.iload X196.here hx rfl (hb hby at_286) rfl ?_
        show Steps p.tables e below (T196.setTop (mkF m 288 #[.val (.int p0), .val (.int p1), .val (.int p2), .val (.int p3), .val (.int p4), .val (.int (0 : Int32)), .val (.int (0 : Int32)), .val (.int c_183), .val (.int c_184), .val (.int c_185), .val (.int c_186), .val (.ref a190), .val (.ref wR), .val (.int (0 : Int32)), .val (.int (0 : Int32)), .unset] [(.int (0 : Int32))])) _
        refine XS.ifYes X196.here hx rfl (pc0 := 288) (pc' := 295) rfl (hb hby at_288) rfl ((if0 _ _).trans (teq (by decide : (0 : Int32) = (0 : Int32))).1) (by decide) (by decide) ?_
        show Steps p.tables e below (T196.setTop (mkF m 295 #[.val (.int p0), .val (.int p1), .val (.int p2), .val (.int p3), .val (.int p4), .val (.int (0 : Int32)), .val (.int (0 : Int32)), .val (.int c_183), .val (.int c_184), .val (.int c_185), .val (.int c_186), .val (.ref a190), .val (.ref wR), .val (.int (0 : Int32)), .val (.int (0 : Int32)), .unset] [])) _
        refine XS.iconst X196.here hx rfl (hb hby at_295) ?_
        show Steps p.tables e below (T196.setTop (mkF m 296 #[.val (.int p0), .val (.int p1), .val (.int p2), .val (.int p3), .val (.int p4), .val (.int (0 : Int32)), .val (.int (0 : Int32)), .val (.int c_183), .val (.int c_184), .val (.int c_185), .val (.int c_186), .val (.ref a190), .val (.ref wR), .val (.int (0 : Int32)), .val (.int (0 : Int32)), .unset] [(.int (0 : Int32))])) _
        refine XS.istore X196.here hx rfl (hb hby at_296) rfl (l' := #[.val (.int p0), .val (.int p1), .val (.int p2), .val (.int p3), .val (.int p4), .val (.int (0 : Int32)), .val (.int (0 : Int32)), .val (.int c_183), .val (.int c_184), .val (.int c_185), .val (.int c_186), .val (.ref a190), .val (.ref wR), .val (.int (0 : Int32)), .val (.int (0 : Int32)), .val (.int (0 : Int32))]) rfl ?_
        show Steps p.tables e below (T196.setTop (mkF m 298 #[.val (.int p0), .val (.int p1), .val (.int p2), .val (.int p3), .val (.int p4), .val (.int (0 : Int32)), .val (.int (0 : Int32)), .val (.int c_183), .val (.int c_184), .val (.int c_185), .val (.int c_186), .val (.ref a190), .val (.ref wR), .val (.int (0 : Int32)), .val (.int (0 : Int32)), .val (.int (0 : Int32))] [])) _
        refine XS.aload X196.here hx rfl (hb hby at_298) rfl rfl ?_
        show Steps p.tables e below (T196.setTop (mkF m 300 #[.val (.int p0), .val (.int p1), .val (.int p2), .val (.int p3), .val (.int p4), .val (.int (0 : Int32)), .val (.int (0 : Int32)), .val (.int c_183), .val (.int c_184), .val (.int c_185), .val (.int c_186), .val (.ref a190), .val (.ref wR), .val (.int (0 : Int32)), .val (.int (0 : Int32)), .val (.int (0 : Int32))] [(.ref wR)])) _
        refine XS.aload X196.here hx rfl (hb hby at_300) rfl rfl ?_
        show Steps p.tables e below (T196.setTop (mkF m 302 #[.val (.int p0), .val (.int p1), .val (.int p2), .val (.int p3), .val (.int p4), .val (.int (0 : Int32)), .val (.int (0 : Int32)), .val (.int c_183), .val (.int c_184), .val (.int c_185), .val (.int c_186), .val (.ref a190), .val (.ref wR), .val (.int (0 : Int32)), .val (.int (0 : Int32)), .val (.int (0 : Int32))] [(.ref a190), (.ref wR)])) _
        refine st200.trans ?_
        show Steps p.tables e below (T200.setTop (mkF m 305 #[.val (.int p0), .val (.int p1), .val (.int p2), .val (.int p3), .val (.int p4), .val (.int (0 : Int32)), .val (.int (0 : Int32)), .val (.int c_183), .val (.int c_184), .val (.int c_185), .val (.int c_186), .val (.ref a190), .val (.ref wR), .val (.int (0 : Int32)), .val (.int (0 : Int32)), .val (.int (0 : Int32))] [(.int (0 : Int32))])) _
        refine XS.iload X200.here hx rfl (hb hby at_305) rfl ?_
        show Steps p.tables e below (T200.setTop (mkF m 307 #[.val (.int p0), .val (.int p1), .val (.int p2), .val (.int p3), .val (.int p4), .val (.int (0 : Int32)), .val (.int (0 : Int32)), .val (.int c_183), .val (.int c_184), .val (.int c_185), .val (.int c_186), .val (.ref a190), .val (.ref wR), .val (.int (0 : Int32)), .val (.int (0 : Int32)), .val (.int (0 : Int32))] [(.int (0 : Int32)), (.int (0 : Int32))])) _
        refine XS.icmpNo X200.here hx rfl (hb hby at_307) rfl (teq (by decide : (0 : Int32) = (0 : Int32))).2 ?_
        show Steps p.tables e below (T200.setTop (mkF m 310 #[.val (.int p0), .val (.int p1), .val (.int p2), .val (.int p3), .val (.int p4), .val (.int (0 : Int32)), .val (.int (0 : Int32)), .val (.int c_183), .val (.int c_184), .val (.int c_185), .val (.int c_186), .val (.ref a190), .val (.ref wR), .val (.int (0 : Int32)), .val (.int (0 : Int32)), .val (.int (0 : Int32))] [])) _
        refine XS.iconst X200.here hx rfl (hb hby at_310) ?_
        show Steps p.tables e below (T200.setTop (mkF m 311 #[.val (.int p0), .val (.int p1), .val (.int p2), .val (.int p3), .val (.int p4), .val (.int (0 : Int32)), .val (.int (0 : Int32)), .val (.int c_183), .val (.int c_184), .val (.int c_185), .val (.int c_186), .val (.ref a190), .val (.ref wR), .val (.int (0 : Int32)), .val (.int (0 : Int32)), .val (.int (0 : Int32))] [(.int (1 : Int32))])) _
        refine XS.goto X200.here hx rfl (pc0 := 311) (pc' := 315) rfl (hb hby at_311) (by decide) (by decide) ?_
        show Steps p.tables e below (T200.setTop (mkF m 315 #[.val (.int p0), .val (.int p1), .val (.int p2), .val (.int p3), .val (.int p4), .val (.int (0 : Int32)), .val (.int (0 : Int32)), .val (.int c_183), .val (.int c_184), .val (.int c_185), .val (.int c_186), .val (.ref a190), .val (.ref wR), .val (.int (0 : Int32)), .val (.int (0 : Int32)), .val (.int (0 : Int32))] [(.int (1 : Int32))])) _
        exact retN X200 hx (t := .boolean) Bd.returns (by simp) (hb hby at_315) hr
      · show Qrm0 Z p0 p1 p2 p3 p4 wF wR G1 h0 n0 _ T200.heap _
        exact ⟨rfl, (fun y hy => Nat.le_trans Z0 (N200 y hy)), KC204⟩
    · have pre205 : ∀ t, Steps p.tables e below (T186.setTop (mkF m 48 #[.val (.int p0), .val (.int p1), .val (.int p2), .val (.int p3), .val (.int p4), .val (.int (0 : Int32)), .val (.int (1 : Int32)), .val (.int c_183), .val (.int c_184), .val (.int c_185), .val (.int c_186), .unset, .unset, .unset, .unset, .unset] [])) t → Steps p.tables e below (s₁.setTop (entryFrame m #[(.int p0), (.int p1), (.int p2), (.int p3), (.int p4)] maxLocals)) t := fun t k => pre187 t (by rw [hv188]; exact k)
      obtain ⟨T206, h206, X206, e206, E206, A206, D206, -, st206⟩ := newO X186 hx hZ hown (hw _ (List.mem_of_getElem? (i := 38) rfl)) (hw _ (List.mem_of_getElem? (i := 6) rfl)) (hw _ (List.mem_of_getElem? (i := 5) rfl)) e186 (g := (mkF m 66 #[.val (.int p0), .val (.int p1), .val (.int p2), .val (.int p3), .val (.int p4), .val (.int (0 : Int32)), .val (.int (1 : Int32)), .val (.int c_183), .val (.int c_184), .val (.int c_185), .val (.int c_186), .unset, .unset, .unset, .unset, .unset] [])) rfl (hb hby at_66) (by decide) (by decide)
      obtain ⟨b206, g206⟩ : ∃ z, z = h0.size := ⟨_, rfl⟩
      rw [← g206] at A206 D206 st206
      have z207 := E206.1
      have KC208 : Keep h0 h206 [] := KC0.ext E206
      have z209 : @LT.lt Nat _ b206 (Array.size h206) := A206.lt
      have F206_value : Fld Z h206 b206 "java/lang/String" "value" "[B" .null := D206 (Or.inr (hw _ (List.mem_of_getElem? (i := 8) rfl))) (ty := (.array .byte)) (by decide)
      have F206_coder : Fld Z h206 b206 "java/lang/String" "coder" "B" (.int (0 : Int32)) := D206 (Or.inr (hw _ (List.mem_of_getElem? (i := 9) rfl))) (ty := .byte) (by decide)
      obtain ⟨T210, h210, k210, X210, e210, E210, A210, st210⟩ := newP X206 hx hZ (hw _ (List.mem_of_getElem? (i := 39) rfl)) e206 (g := (mkF m 71 #[.val (.int p0), .val (.int p1), .val (.int p2), .val (.int p3), .val (.int p4), .val (.int (0 : Int32)), .val (.int (1 : Int32)), .val (.int c_183), .val (.int c_184), .val (.int c_185), .val (.int c_186), .unset, .unset, .unset, .unset, .unset] [(.int (1 : Int32)), (.ref b206), (.ref b206)])) rfl (hb hby at_71) rfl (by decide) (cap := 1) (by decide) (by decide) (by decide) (by decide)
      obtain ⟨b210, g210⟩ : ∃ z, z = h206.size := ⟨_, rfl⟩
      rw [← g210] at A210 st210
      have z211 := E210.1
      have KC212 : Keep h0 h210 [] := KC208.ext E210
      have V210 : Arv Z h210 b210 k210 .char (1 : Int32) [(.int (0 : Int32))] (.int (0 : Int32)) := (Arv.new A210 (by decide)).pad (pad_rep [] (.int (0 : Int32)) 1)
      have z213 : @LT.lt Nat _ b210 (Array.size h210) := V210.lt
      obtain ⟨cl214, Ar214, q214, S214, N214', H214, G214⟩ := id V210
      have hin214 : ¬ ((0 : Int32) < 0 ∨ cl214.slots.size ≤ ((0 : Int32)).toNatClampNeg) := inb_of S214 ⟨by decide, by decide⟩
      obtain ⟨T215, h215, X215, e215, W215, st215⟩ := stC X210 hx hZ e210 Ar214 (j := (0 : Int32)) hin214 (g := (mkF m 77 #[.val (.int p0), .val (.int p1), .val (.int p2), .val (.int p3), .val (.int p4), .val (.int (0 : Int32)), .val (.int (1 : Int32)), .val (.int c_183), .val (.int c_184), .val (.int c_185), .val (.int c_186), .unset, .unset, .unset, .unset, .unset] [(.int c_183), (.int (0 : Int32)), (.ref b210), (.ref b210), (.ref b206), (.ref b206)])) rfl rfl (hb hby at_77)
      have z216 := W215.size
      have N215 := Fr.snoc X215 N186 (by omega : h0.size ≤ b210)
      have KC217 : Keep h0 h215 [] := KC212.wr W215 (Or.inr (by omega))
      have V215 : Arv Z h215 b210 k210 .char (1 : Int32) [(.int (nar .char c_183))] (.int (0 : Int32)) := Arv.set Ar214 q214 S214 N214' H214 G214 (fits_nar_char _) W215 0 rfl (Nat.le_of_ble_eq_true rfl)
      rw [P183_1] at V215
      have Fc219 := ((A206.ext E210).wr W215)
      have Fc220 := ((F206_value.ext E210).other W215 (Or.inl (by omega : @Ne Nat b206 b210)))
      have Fc221 := ((F206_coder.ext E210).other W215 (Or.inl (by omega : @Ne Nat b206 b210)))
      have Fc222 := (((H4.ext E206).ext E210).wr W215)
      have hp218 : ∀ c ∈ ([c_183] : List Int32), ¬ c < 0 ∧ ¬ (255 : Int32) < c := by
        intro c hc
        simp only [List.mem_cons, List.not_mem_nil, or_false] at hc
        subst hc
        exact P183_0
      obtain ⟨_, _, ⟨T218, L218, k218, n218⟩, -, X218, ⟨Lc218, hQ218, l218, y218, z218⟩, st218⟩ := X215.specialBack hx (y := (⟨"java/lang/String", "<init>", "([C)V"⟩ : MethodName)) rfl hown (mvT hZ (hw _ (List.mem_of_getElem? (i := 40) rfl))) (mvT hZ (hw _ (List.mem_of_getElem? (i := 41) rfl))) (mvT hZ (hw _ (List.mem_of_getElem? (i := 42) rfl))) (by decide) (StrChars.Road.backV (W := 1) hZ (fun d hd => hw d (own_words d hd)) (kI := 4) (hw _ (List.mem_of_getElem? (i := 6) rfl)) (cs := ([c_183] : List Int32)) (bs := (([c_183] : List Int32)).map (fun c => c.toInt8.toInt32)) (n := 1) (by omega : h0.size ≤ b206) (by omega : h0.size ≤ h215.size) Fc219 Fc220 Fc221 V215 Fc222 hG1 rfl rfl (by decide) (by decide) hp218 rfl (by decide) (by decide)) (g := (mkF m 78 #[.val (.int p0), .val (.int p1), .val (.int p2), .val (.int p3), .val (.int p4), .val (.int (0 : Int32)), .val (.int (1 : Int32)), .val (.int c_183), .val (.int c_184), .val (.int c_185), .val (.int c_186), .unset, .unset, .unset, .unset, .unset] [(.ref b210), (.ref b206), (.ref b206)])) rfl (by rw [hml]; rfl) (Steps.refl _) (a := b206) (argsL := [(.ref b210)]) (rest := [(.ref b206)]) (lenOf pd_3 rfl) rfl (by show 2 * 0 + _ ≤ _; exact Nat.le_of_eq rfl) (hb hby at_78) (fun _ _ => ⟨rfl, e215, (by decide : 2 + 1 ≤ _), (by decide : 5 + 1 ≤ _)⟩)
      dsimp only [Pt.U, Pt.locs, Pt.cells, Pt.slots] at X218 l218 y218 z218 st218 hQ218
      subst l218 y218 z218
      obtain ⟨rfl, N218q, K218, P218E, P218C, bv218, kb218, u218a, u218b, u218c, P218V, P218A⟩ := hQ218
      have N218 := Fr.app N215 N218q
      have z223 := K218.1
      have KC224 : Keep h0 T218.heap [] := KC217.trans K218 (allS (Or.inr (by omega)) all0)
      have P218B : Arv Z T218.heap bv218 kb218 .byte (1 : Int32) [(.int (c_183).toInt8.toInt32)] (.int (0 : Int32)) := P218A
      have z225 : @LT.lt Nat _ b206 (Array.size T218.heap) := P218E.lt
      have z226 : @LT.lt Nat _ bv218 (Array.size T218.heap) := P218A.lt
      have Fc227 := (own_staK (((H1.ext E206).ext E210).wr W215) K218 (allS ⟨_, Fc219⟩ all0))
      obtain ⟨T228, X228, e228, st228⟩ := getS2 X218 hx hZ hown (host := "") (Or.inl (hw _ (List.mem_of_getElem? (i := 12) rfl))) Via.refl rfl Fc227 (g := (mkF m 196 #[.val (.int p0), .val (.int p1), .val (.int p2), .val (.int p3), .val (.int p4), .val (.int (0 : Int32)), .val (.int (1 : Int32)), .val (.int c_183), .val (.int c_184), .val (.int c_185), .val (.int c_186), .val (.ref b206), .unset, .unset, .unset, .unset] [])) rfl (hb hby at_196)
      have Xo229 : Ext Z.heap T218.heap := own_extT X00 (own_ext KC224)
      have Fc230 := (own_staK (((H0.ext E206).ext E210).wr W215) K218 (allS ⟨_, Fc219⟩ all0))
      have Fc231 := (own_staK Fc222 K218 (allS ⟨_, Fc219⟩ all0))
      have z233 := congrArg Array.size e228
      have Fc234 := ((((H3.ext E206).ext E210).wr W215).keep K218)
      obtain ⟨cq232, kq232, qa232, qb232, qc232⟩ := isOf hZ e228 Fc234
      obtain ⟨_, _, ⟨T232, L232, k232, n232⟩, -, Y232, hY232, gY232, ⟨Lc232, hQ232, l232, y232, z232⟩, st232⟩ := X228.virtualBackS hx (y := (⟨"com/example/task_relay/taskrelay/Scope", "allows", "(Ljava/lang/String;)Z"⟩ : MethodName)) (z := (⟨"com/example/task_relay/taskrelay/Scope", "allows", "(Ljava/lang/String;)Z"⟩ : MethodName)) hown (mvT hZ (hw _ (List.mem_of_getElem? (i := 15) rfl))) (mvT hZ (hw _ (List.mem_of_getElem? (i := 16) rfl))) (notFace_of_selects (args := #[]) (mvT hZ (hw _ (List.mem_of_getElem? (i := 18) rfl)))) (mvT hZ (hw _ (List.mem_of_getElem? (i := 18) rfl))) (mvT hZ (hw _ (List.mem_of_getElem? (i := 17) rfl))) (by decide) (backOfI (W := 0) (rmar1 l Z a0 hw [] wR b206 wF G1 bv218 kb218 c_183 T218.heap h0.size (by omega) Fc230 Fc231 (hG1 : ¬ (G1 = (0 : Int32))) (hh58 : Jvm.Lit.constHeld Z "com/example/task_relay/taskrelay/Scope" 58) (hh60 : Jvm.Lit.constHeld Z "com/example/task_relay/taskrelay/Scope" 60) (Xo229 : Ext Z.heap T218.heap) (hcw : Jvm.Lit.compactW.before a0 Z = true) (hne : ¬ (wR = wF)) P218E P218C P218V P218B (P183_0 : ¬ (c_183 < 0) ∧ ¬ ((255 : Int32) < c_183))) hZ (hw _ (List.mem_of_getElem? (i := 19) rfl)) (hw _ (List.mem_of_getElem? (i := 13) rfl)) (by decide) (by decide)) qa232 qc232 (g := (mkF m 302 #[.val (.int p0), .val (.int p1), .val (.int p2), .val (.int p3), .val (.int p4), .val (.int (0 : Int32)), .val (.int (1 : Int32)), .val (.int c_183), .val (.int c_184), .val (.int c_185), .val (.int c_186), .val (.ref b206), .val (.ref wR), .val (.int (0 : Int32)), .val (.int (0 : Int32)), .val (.int (0 : Int32))] [(.ref b206), (.ref wR)])) rfl (by rw [hml]; rfl) (Steps.refl _) (argsL := [(.ref b206)]) (rest := []) (lenOf pd_2 rfl) rfl (by show 2 * 0 + _ ≤ _; exact Nat.le_of_eq rfl) (hb hby at_302) (fun _ Hw => ⟨rfl, e228, (by decide : 3 + 4 ≤ _), (by decide : 6 + 36 ≤ _), own_IBw hI Hw⟩)
      dsimp only [Pt.U, Pt.locs, Pt.cells, Pt.slots] at Y232 hY232 gY232 l232 y232 z232 st232 hQ232
      subst l232 y232 z232
      obtain ⟨X232, hS232, hZ232, hw232⟩ := rebS (s := s) (vm0 := s.vm) hS0 (by omega : h0.size ≤ T228.heap.size) Y232 hY232 gY232 hZ hown
      obtain ⟨rfl, N232q, K232⟩ := hQ232
      have N232 := Fr.app N218 N232q
      have z235 := K232.1
      have KC236 : Keep h0 T232.heap [] := KC224.trans K232 all0
      obtain ⟨fs, hr, hrun, hended, rE1, rE2, rE3, rE4⟩ := leaveW (s := s) (vm₁ := T232.vm) X232 hS232 (by omega : T232.heap.size ≤ T232.heap.size) (v := some (.int (1 : Int32))) (fun h => by rw [Bd.returns] at h; cases h)
      refine ⟨_, _, pre205 _ ?_, hrun, hended, _, _, rfl, ?_, rE1, rE2, rE3, rE4.mono (by decide) (by decide)⟩
      · show Steps p.tables e below (T186.setTop (mkF m 48 #[.val (.int p0), .val (.int p1), .val (.int p2), .val (.int p3), .val (.int p4), .val (.int (0 : Int32)), .val (.int (1 : Int32)), .val (.int c_183), .val (.int c_184), .val (.int c_185), .val (.int c_186), .unset, .unset, .unset, .unset, .unset] [])) _
        refine XS.iload X186.here hx rfl (hb hby at_48) rfl ?_
        show Steps p.tables e below (T186.setTop (mkF m 50 #[.val (.int p0), .val (.int p1), .val (.int p2), .val (.int p3), .val (.int p4), .val (.int (0 : Int32)), .val (.int (1 : Int32)), .val (.int c_183), .val (.int c_184), .val (.int c_185), .val (.int c_186), .unset, .unset, .unset, .unset, .unset] [(.int (1 : Int32))])) _
        refine XS.ifYes X186.here hx rfl (pc0 := 50) (pc' := 60) rfl (hb hby at_50) rfl ((if0 _ _).trans (feq (by decide : ¬ ((1 : Int32) = (0 : Int32)))).2) (by decide) (by decide) ?_
        show Steps p.tables e below (T186.setTop (mkF m 60 #[.val (.int p0), .val (.int p1), .val (.int p2), .val (.int p3), .val (.int p4), .val (.int (0 : Int32)), .val (.int (1 : Int32)), .val (.int c_183), .val (.int c_184), .val (.int c_185), .val (.int c_186), .unset, .unset, .unset, .unset, .unset] [])) _
        refine XS.iload X186.here hx rfl (hb hby at_60) rfl ?_
        show Steps p.tables e below (T186.setTop (mkF m 62 #[.val (.int p0), .val (.int p1), .val (.int p2), .val (.int p3), .val (.int p4), .val (.int (0 : Int32)), .val (.int (1 : Int32)), .val (.int c_183), .val (.int c_184), .val (.int c_185), .val (.int c_186), .unset, .unset, .unset, .unset, .unset] [(.int (1 : Int32))])) _
        refine XS.iconst X186.here hx rfl (hb hby at_62) ?_
        show Steps p.tables e below (T186.setTop (mkF m 63 #[.val (.int p0), .val (.int p1), .val (.int p2), .val (.int p3), .val (.int p4), .val (.int (0 : Int32)), .val (.int (1 : Int32)), .val (.int c_183), .val (.int c_184), .val (.int c_185), .val (.int c_186), .unset, .unset, .unset, .unset, .unset] [(.int (1 : Int32)), (.int (1 : Int32))])) _
        refine XS.icmpNo X186.here hx rfl (hb hby at_63) rfl (teq (by decide : (1 : Int32) = (1 : Int32))).2 ?_
        show Steps p.tables e below (T186.setTop (mkF m 66 #[.val (.int p0), .val (.int p1), .val (.int p2), .val (.int p3), .val (.int p4), .val (.int (0 : Int32)), .val (.int (1 : Int32)), .val (.int c_183), .val (.int c_184), .val (.int c_185), .val (.int c_186), .unset, .unset, .unset, .unset, .unset] [])) _
        refine st206 _ ?_
        show Steps p.tables e below (T206.setTop (mkF m 69 #[.val (.int p0), .val (.int p1), .val (.int p2), .val (.int p3), .val (.int p4), .val (.int (0 : Int32)), .val (.int (1 : Int32)), .val (.int c_183), .val (.int c_184), .val (.int c_185), .val (.int c_186), .unset, .unset, .unset, .unset, .unset] [(.ref b206)])) _
        refine XS.dup X206.here hx rfl (hb hby at_69) rfl rfl ?_
        show Steps p.tables e below (T206.setTop (mkF m 70 #[.val (.int p0), .val (.int p1), .val (.int p2), .val (.int p3), .val (.int p4), .val (.int (0 : Int32)), .val (.int (1 : Int32)), .val (.int c_183), .val (.int c_184), .val (.int c_185), .val (.int c_186), .unset, .unset, .unset, .unset, .unset] [(.ref b206), (.ref b206)])) _
        refine XS.iconst X206.here hx rfl (hb hby at_70) ?_
        show Steps p.tables e below (T206.setTop (mkF m 71 #[.val (.int p0), .val (.int p1), .val (.int p2), .val (.int p3), .val (.int p4), .val (.int (0 : Int32)), .val (.int (1 : Int32)), .val (.int c_183), .val (.int c_184), .val (.int c_185), .val (.int c_186), .unset, .unset, .unset, .unset, .unset] [(.int (1 : Int32)), (.ref b206), (.ref b206)])) _
        refine st210 _ ?_
        show Steps p.tables e below (T210.setTop (mkF m 73 #[.val (.int p0), .val (.int p1), .val (.int p2), .val (.int p3), .val (.int p4), .val (.int (0 : Int32)), .val (.int (1 : Int32)), .val (.int c_183), .val (.int c_184), .val (.int c_185), .val (.int c_186), .unset, .unset, .unset, .unset, .unset] [(.ref b210), (.ref b206), (.ref b206)])) _
        refine XS.dup X210.here hx rfl (hb hby at_73) rfl rfl ?_
        show Steps p.tables e below (T210.setTop (mkF m 74 #[.val (.int p0), .val (.int p1), .val (.int p2), .val (.int p3), .val (.int p4), .val (.int (0 : Int32)), .val (.int (1 : Int32)), .val (.int c_183), .val (.int c_184), .val (.int c_185), .val (.int c_186), .unset, .unset, .unset, .unset, .unset] [(.ref b210), (.ref b210), (.ref b206), (.ref b206)])) _
        refine XS.iconst X210.here hx rfl (hb hby at_74) ?_
        show Steps p.tables e below (T210.setTop (mkF m 75 #[.val (.int p0), .val (.int p1), .val (.int p2), .val (.int p3), .val (.int p4), .val (.int (0 : Int32)), .val (.int (1 : Int32)), .val (.int c_183), .val (.int c_184), .val (.int c_185), .val (.int c_186), .unset, .unset, .unset, .unset, .unset] [(.int (0 : Int32)), (.ref b210), (.ref b210), (.ref b206), (.ref b206)])) _
        refine XS.iload X210.here hx rfl (hb hby at_75) rfl ?_
        show Steps p.tables e below (T210.setTop (mkF m 77 #[.val (.int p0), .val (.int p1), .val (.int p2), .val (.int p3), .val (.int p4), .val (.int (0 : Int32)), .val (.int (1 : Int32)), .val (.int c_183), .val (.int c_184), .val (.int c_185), .val (.int c_186), .unset, .unset, .unset, .unset, .unset] [(.int c_183), (.int (0 : Int32)), (.ref b210), (.ref b210), (.ref b206), (.ref b206)])) _
        refine st215 _ ?_
        show Steps p.tables e below (T215.setTop (mkF m 78 #[.val (.int p0), .val (.int p1), .val (.int p2), .val (.int p3), .val (.int p4), .val (.int (0 : Int32)), .val (.int (1 : Int32)), .val (.int c_183), .val (.int c_184), .val (.int c_185), .val (.int c_186), .unset, .unset, .unset, .unset, .unset] [(.ref b210), (.ref b206), (.ref b206)])) _
        refine st218.trans ?_
        show Steps p.tables e below (T218.setTop (mkF m 81 #[.val (.int p0), .val (.int p1), .val (.int p2), .val (.int p3), .val (.int p4), .val (.int (0 : Int32)), .val (.int (1 : Int32)), .val (.int c_183), .val (.int c_184), .val (.int c_185), .val (.int c_186), .unset, .unset, .unset, .unset, .unset] [(.ref b206)])) _
        refine XS.astore X218.here hx rfl (hb hby at_81) rfl rfl (l' := #[.val (.int p0), .val (.int p1), .val (.int p2), .val (.int p3), .val (.int p4), .val (.int (0 : Int32)), .val (.int (1 : Int32)), .val (.int c_183), .val (.int c_184), .val (.int c_185), .val (.int c_186), .val (.ref b206), .unset, .unset, .unset, .unset]) rfl ?_
        show Steps p.tables e below (T218.setTop (mkF m 83 #[.val (.int p0), .val (.int p1), .val (.int p2), .val (.int p3), .val (.int p4), .val (.int (0 : Int32)), .val (.int (1 : Int32)), .val (.int c_183), .val (.int c_184), .val (.int c_185), .val (.int c_186), .val (.ref b206), .unset, .unset, .unset, .unset] [])) _
        refine XS.goto X218.here hx rfl (pc0 := 83) (pc' := 185) rfl (hb hby at_83) (by decide) (by decide) ?_
        show Steps p.tables e below (T218.setTop (mkF m 185 #[.val (.int p0), .val (.int p1), .val (.int p2), .val (.int p3), .val (.int p4), .val (.int (0 : Int32)), .val (.int (1 : Int32)), .val (.int c_183), .val (.int c_184), .val (.int c_185), .val (.int c_186), .val (.ref b206), .unset, .unset, .unset, .unset] [])) _
        refine XS.iload X218.here hx rfl (hb hby at_185) rfl ?_
        show Steps p.tables e below (T218.setTop (mkF m 187 #[.val (.int p0), .val (.int p1), .val (.int p2), .val (.int p3), .val (.int p4), .val (.int (0 : Int32)), .val (.int (1 : Int32)), .val (.int c_183), .val (.int c_184), .val (.int c_185), .val (.int c_186), .val (.ref b206), .unset, .unset, .unset, .unset] [(.int (0 : Int32))])) _
        refine XS.ifYes X218.here hx rfl (pc0 := 187) (pc' := 196) rfl (hb hby at_187) rfl ((if0 _ _).trans (teq (by decide : (0 : Int32) = (0 : Int32))).1) (by decide) (by decide) ?_
        show Steps p.tables e below (T218.setTop (mkF m 196 #[.val (.int p0), .val (.int p1), .val (.int p2), .val (.int p3), .val (.int p4), .val (.int (0 : Int32)), .val (.int (1 : Int32)), .val (.int c_183), .val (.int c_184), .val (.int c_185), .val (.int c_186), .val (.ref b206), .unset, .unset, .unset, .unset] [])) _
        refine st228 _ ?_
        show Steps p.tables e below (T228.setTop (mkF m 199 #[.val (.int p0), .val (.int p1), .val (.int p2), .val (.int p3), .val (.int p4), .val (.int (0 : Int32)), .val (.int (1 : Int32)), .val (.int c_183), .val (.int c_184), .val (.int c_185), .val (.int c_186), .val (.ref b206), .unset, .unset, .unset, .unset] [(.ref wR)])) _
        refine XS.astore X228.here hx rfl (hb hby at_199) rfl rfl (l' := #[.val (.int p0), .val (.int p1), .val (.int p2), .val (.int p3), .val (.int p4), .val (.int (0 : Int32)), .val (.int (1 : Int32)), .val (.int c_183), .val (.int c_184), .val (.int c_185), .val (.int c_186), .val (.ref b206), .val (.ref wR), .unset, .unset, .unset]) rfl ?_
        show Steps p.tables e below (T228.setTop (mkF m 201 #[.val (.int p0), .val (.int p1), .val (.int p2), .val (.int p3), .val (.int p4), .val (.int (0 : Int32)), .val (.int (1 : Int32)), .val (.int c_183), .val (.int c_184), .val (.int c_185), .val (.int c_186), .val (.ref b206), .val (.ref wR), .unset, .unset, .unset] [])) _
        refine XS.iload X228.here hx rfl (hb hby at_201) rfl ?_
        show Steps p.tables e below (T228.setTop (mkF m 203 #[.val (.int p0), .val (.int p1), .val (.int p2), .val (.int p3), .val (.int p4), .val (.int (0 : Int32)), .val (.int (1 : Int32)), .val (.int c_183), .val (.int c_184), .val (.int c_185), .val (.int c_186), .val (.ref b206), .val (.ref wR), .unset, .unset, .unset] [(.int (1 : Int32))])) _
        refine XS.iconst X228.here hx rfl (hb hby at_203) ?_
        show Steps p.tables e below (T228.setTop (mkF m 204 #[.val (.int p0), .val (.int p1), .val (.int p2), .val (.int p3), .val (.int p4), .val (.int (0 : Int32)), .val (.int (1 : Int32)), .val (.int c_183), .val (.int c_184), .val (.int c_185), .val (.int c_186), .val (.ref b206), .val (.ref wR), .unset, .unset, .unset] [(.int (3 : Int32)), (.int (1 : Int32))])) _
        refine XS.icmpYes X228.here hx rfl (pc0 := 204) (pc' := 232) rfl (hb hby at_204) rfl (feq (by decide : ¬ ((1 : Int32) = (3 : Int32)))).2 (by decide) (by decide) ?_
        show Steps p.tables e below (T228.setTop (mkF m 232 #[.val (.int p0), .val (.int p1), .val (.int p2), .val (.int p3), .val (.int p4), .val (.int (0 : Int32)), .val (.int (1 : Int32)), .val (.int c_183), .val (.int c_184), .val (.int c_185), .val (.int c_186), .val (.ref b206), .val (.ref wR), .unset, .unset, .unset] [])) _
        refine XS.iconst X228.here hx rfl (hb hby at_232) ?_
        show Steps p.tables e below (T228.setTop (mkF m 233 #[.val (.int p0), .val (.int p1), .val (.int p2), .val (.int p3), .val (.int p4), .val (.int (0 : Int32)), .val (.int (1 : Int32)), .val (.int c_183), .val (.int c_184), .val (.int c_185), .val (.int c_186), .val (.ref b206), .val (.ref wR), .unset, .unset, .unset] [(.int (0 : Int32))])) _
        refine XS.istore X228.here hx rfl (hb hby at_233) rfl (l' := #[.val (.int p0), .val (.int p1), .val (.int p2), .val (.int p3), .val (.int p4), .val (.int (0 : Int32)), .val (.int (1 : Int32)), .val (.int c_183), .val (.int c_184), .val (.int c_185), .val (.int c_186), .val (.ref b206), .val (.ref wR), .val (.int (0 : Int32)), .unset, .unset]) rfl ?_
        show Steps p.tables e below (T228.setTop (mkF m 235 #[.val (.int p0), .val (.int p1), .val (.int p2), .val (.int p3), .val (.int p4), .val (.int (0 : Int32)), .val (.int (1 : Int32)), .val (.int c_183), .val (.int c_184), .val (.int c_185), .val (.int c_186), .val (.ref b206), .val (.ref wR), .val (.int (0 : Int32)), .unset, .unset] [])) _
        refine XS.iload X228.here hx rfl (hb hby at_235) rfl ?_
        show Steps p.tables e below (T228.setTop (mkF m 237 #[.val (.int p0), .val (.int p1), .val (.int p2), .val (.int p3), .val (.int p4), .val (.int (0 : Int32)), .val (.int (1 : Int32)), .val (.int c_183), .val (.int c_184), .val (.int c_185), .val (.int c_186), .val (.ref b206), .val (.ref wR), .val (.int (0 : Int32)), .unset, .unset] [(.int (1 : Int32))])) _
        refine XS.iconst X228.here hx rfl (hb hby at_237) ?_
        show Steps p.tables e below (T228.setTop (mkF m 238 #[.val (.int p0), .val (.int p1), .val (.int p2), .val (.int p3), .val (.int p4), .val (.int (0 : Int32)), .val (.int (1 : Int32)), .val (.int c_183), .val (.int c_184), .val (.int c_185), .val (.int c_186), .val (.ref b206), .val (.ref wR), .val (.int (0 : Int32)), .unset, .unset] [(.int (4 : Int32)), (.int (1 : Int32))])) _
        refine XS.icmpYes X228.here hx rfl (pc0 := 238) (pc' := 273) rfl (hb hby at_238) rfl (feq (by decide : ¬ ((1 : Int32) = (4 : Int32)))).2 (by decide) (by decide) ?_
        show Steps p.tables e below (T228.setTop (mkF m 273 #[.val (.int p0), .val (.int p1), .val (.int p2), .val (.int p3), .val (.int p4), .val (.int (0 : Int32)), .val (.int (1 : Int32)), .val (.int c_183), .val (.int c_184), .val (.int c_185), .val (.int c_186), .val (.ref b206), .val (.ref wR), .val (.int (0 : Int32)), .unset, .unset] [])) _
        refine XS.iconst X228.here hx rfl (hb hby at_273) ?_
        show Steps p.tables e below (T228.setTop (mkF m 274 #[.val (.int p0), .val (.int p1), .val (.int p2), .val (.int p3), .val (.int p4), .val (.int (0 : Int32)), .val (.int (1 : Int32)), .val (.int c_183), .val (.int c_184), .val (.int c_185), .val (.int c_186), .val (.ref b206), .val (.ref wR), .val (.int (0 : Int32)), .unset, .unset] [(.int (0 : Int32))])) _
        refine XS.istore X228.here hx rfl (hb hby at_274) rfl (l' := #[.val (.int p0), .val (.int p1), .val (.int p2), .val (.int p3), .val (.int p4), .val (.int (0 : Int32)), .val (.int (1 : Int32)), .val (.int c_183), .val (.int c_184), .val (.int c_185), .val (.int c_186), .val (.ref b206), .val (.ref wR), .val (.int (0 : Int32)), .val (.int (0 : Int32)), .unset]) rfl ?_
        show Steps p.tables e below (T228.setTop (mkF m 276 #[.val (.int p0), .val (.int p1), .val (.int p2), .val (.int p3), .val (.int p4), .val (.int (0 : Int32)), .val (.int (1 : Int32)), .val (.int c_183), .val (.int c_184), .val (.int c_185), .val (.int c_186), .val (.ref b206), .val (.ref wR), .val (.int (0 : Int32)), .val (.int (0 : Int32)), .unset] [])) _
        refine XS.iload X228.here hx rfl (hb hby at_276) rfl ?_
        show Steps p.tables e below (T228.setTop (mkF m 278 #[.val (.int p0), .val (.int p1), .val (.int p2), .val (.int p3), .val (.int p4), .val (.int (0 : Int32)), .val (.int (1 : Int32)), .val (.int c_183), .val (.int c_184), .val (.int c_185), .val (.int c_186), .val (.ref b206), .val (.ref wR), .val (.int (0 : Int32)), .val (.int (0 : Int32)), .unset] [(.int (0 : Int32))])) _
        refine XS.ifNo X228.here hx rfl (hb hby at_278) rfl ((if0 _ _).trans (teq (by decide : (0 : Int32) = (0 : Int32))).2) ?_
        show Steps p.tables e below (T228.setTop (mkF m 281 #[.val (.int p0), .val (.int p1), .val (.int p2), .val (.int p3), .val (.int p4), .val (.int (0 : Int32)), .val (.int (1 : Int32)), .val (.int c_183), .val (.int c_184), .val (.int c_185), .val (.int c_186), .val (.ref b206), .val (.ref wR), .val (.int (0 : Int32)), .val (.int (0 : Int32)), .unset] [])) _
        refine XS.iload X228.here hx rfl (hb hby at_281) rfl ?_
        show Steps p.tables e below (T228.setTop (mkF m 283 #[.val (.int p0), .val (.int p1), .val (.int p2), .val (.int p3), .val (.int p4), .val (.int (0 : Int32)), .val (.int (1 : Int32)), .val (.int c_183), .val (.int c_184), .val (.int c_185), .val (.int c_186), .val (.ref b206), .val (.ref wR), .val (.int (0 : Int32)), .val (.int (0 : Int32)), .unset] [(.int (0 : Int32))])) _
        refine XS.ifNo X228.here hx rfl (hb hby at_283) rfl ((if0 _ _).trans (teq (by decide : (0 : Int32) = (0 : Int32))).2) ?_
        show Steps p.tables e below (T228.setTop (mkF m 286 #[.val (.int p0), .val (.int p1), .val (.int p2), .val (.int p3), .val (.int p4), .val (.int (0 : Int32)), .val (.int (1 : Int32)), .val (.int c_183), .val (.int c_184), .val (.int c_185), .val (.int c_186), .val (.ref b206), .val (.ref wR), .val (.int (0 : Int32)), .val (.int (0 : Int32)), .unset] [])) _
        refine XS.iload X228.here hx rfl (hb hby at_286) rfl ?_
        show Steps p.tables e below (T228.setTop (mkF m 288 #[.val (.int p0), .val (.int p1), .val (.int p2), .val (.int p3), .val (.int p4), .val (.int (0 : Int32)), .val (.int (1 : Int32)), .val (.int c_183), .val (.int c_184), .val (.int c_185), .val (.int c_186), .val (.ref b206), .val (.ref wR), .val (.int (0 : Int32)), .val (.int (0 : Int32)), .unset] [(.int (0 : Int32))])) _
        refine XS.ifYes X228.here hx rfl (pc0 := 288) (pc' := 295) rfl (hb hby at_288) rfl ((if0 _ _).trans (teq (by decide : (0 : Int32) = (0 : Int32))).1) (by decide) (by decide) ?_
        show Steps p.tables e below (T228.setTop (mkF m 295 #[.val (.int p0), .val (.int p1), .val (.int p2), .val (.int p3), .val (.int p4), .val (.int (0 : Int32)), .val (.int (1 : Int32)), .val (.int c_183), .val (.int c_184), .val (.int c_185), .val (.int c_186), .val (.ref b206), .val (.ref wR), .val (.int (0 : Int32)), .val (.int (0 : Int32)), .unset] [])) _
        refine XS.iconst X228.here hx rfl (hb hby at_295) ?_
        show Steps p.tables e below (T228.setTop (mkF m 296 #[.val (.int p0), .val (.int p1), .val (.int p2), .val (.int p3), .val (.int p4), .val (.int (0 : Int32)), .val (.int (1 : Int32)), .val (.int c_183), .val (.int c_184), .val (.int c_185), .val (.int c_186), .val (.ref b206), .val (.ref wR), .val (.int (0 : Int32)), .val (.int (0 : Int32)), .unset] [(.int (0 : Int32))])) _
        refine XS.istore X228.here hx rfl (hb hby at_296) rfl (l' := #[.val (.int p0), .val (.int p1), .val (.int p2), .val (.int p3), .val (.int p4), .val (.int (0 : Int32)), .val (.int (1 : Int32)), .val (.int c_183), .val (.int c_184), .val (.int c_185), .val (.int c_186), .val (.ref b206), .val (.ref wR), .val (.int (0 : Int32)), .val (.int (0 : Int32)), .val (.int (0 : Int32))]) rfl ?_
        show Steps p.tables e below (T228.setTop (mkF m 298 #[.val (.int p0), .val (.int p1), .val (.int p2), .val (.int p3), .val (.int p4), .val (.int (0 : Int32)), .val (.int (1 : Int32)), .val (.int c_183), .val (.int c_184), .val (.int c_185), .val (.int c_186), .val (.ref b206), .val (.ref wR), .val (.int (0 : Int32)), .val (.int (0 : Int32)), .val (.int (0 : Int32))] [])) _
        refine XS.aload X228.here hx rfl (hb hby at_298) rfl rfl ?_
        show Steps p.tables e below (T228.setTop (mkF m 300 #[.val (.int p0), .val (.int p1), .val (.int p2), .val (.int p3), .val (.int p4), .val (.int (0 : Int32)), .val (.int (1 : Int32)), .val (.int c_183), .val (.int c_184), .val (.int c_185), .val (.int c_186), .val (.ref b206), .val (.ref wR), .val (.int (0 : Int32)), .val (.int (0 : Int32)), .val (.int (0 : Int32))] [(.ref wR)])) _
        refine XS.aload X228.here hx rfl (hb hby at_300) rfl rfl ?_
        show Steps p.tables e below (T228.setTop (mkF m 302 #[.val (.int p0), .val (.int p1), .val (.int p2), .val (.int p3), .val (.int p4), .val (.int (0 : Int32)), .val (.int (1 : Int32)), .val (.int c_183), .val (.int c_184), .val (.int c_185), .val (.int c_186), .val (.ref b206), .val (.ref wR), .val (.int (0 : Int32)), .val (.int (0 : Int32)), .val (.int (0 : Int32))] [(.ref b206), (.ref wR)])) _
        refine st232.trans ?_
        show Steps p.tables e below (T232.setTop (mkF m 305 #[.val (.int p0), .val (.int p1), .val (.int p2), .val (.int p3), .val (.int p4), .val (.int (0 : Int32)), .val (.int (1 : Int32)), .val (.int c_183), .val (.int c_184), .val (.int c_185), .val (.int c_186), .val (.ref b206), .val (.ref wR), .val (.int (0 : Int32)), .val (.int (0 : Int32)), .val (.int (0 : Int32))] [(.int (0 : Int32))])) _
        refine XS.iload X232.here hx rfl (hb hby at_305) rfl ?_
        show Steps p.tables e below (T232.setTop (mkF m 307 #[.val (.int p0), .val (.int p1), .val (.int p2), .val (.int p3), .val (.int p4), .val (.int (0 : Int32)), .val (.int (1 : Int32)), .val (.int c_183), .val (.int c_184), .val (.int c_185), .val (.int c_186), .val (.ref b206), .val (.ref wR), .val (.int (0 : Int32)), .val (.int (0 : Int32)), .val (.int (0 : Int32))] [(.int (0 : Int32)), (.int (0 : Int32))])) _
        refine XS.icmpNo X232.here hx rfl (hb hby at_307) rfl (teq (by decide : (0 : Int32) = (0 : Int32))).2 ?_
        show Steps p.tables e below (T232.setTop (mkF m 310 #[.val (.int p0), .val (.int p1), .val (.int p2), .val (.int p3), .val (.int p4), .val (.int (0 : Int32)), .val (.int (1 : Int32)), .val (.int c_183), .val (.int c_184), .val (.int c_185), .val (.int c_186), .val (.ref b206), .val (.ref wR), .val (.int (0 : Int32)), .val (.int (0 : Int32)), .val (.int (0 : Int32))] [])) _
        refine XS.iconst X232.here hx rfl (hb hby at_310) ?_
        show Steps p.tables e below (T232.setTop (mkF m 311 #[.val (.int p0), .val (.int p1), .val (.int p2), .val (.int p3), .val (.int p4), .val (.int (0 : Int32)), .val (.int (1 : Int32)), .val (.int c_183), .val (.int c_184), .val (.int c_185), .val (.int c_186), .val (.ref b206), .val (.ref wR), .val (.int (0 : Int32)), .val (.int (0 : Int32)), .val (.int (0 : Int32))] [(.int (1 : Int32))])) _
        refine XS.goto X232.here hx rfl (pc0 := 311) (pc' := 315) rfl (hb hby at_311) (by decide) (by decide) ?_
        show Steps p.tables e below (T232.setTop (mkF m 315 #[.val (.int p0), .val (.int p1), .val (.int p2), .val (.int p3), .val (.int p4), .val (.int (0 : Int32)), .val (.int (1 : Int32)), .val (.int c_183), .val (.int c_184), .val (.int c_185), .val (.int c_186), .val (.ref b206), .val (.ref wR), .val (.int (0 : Int32)), .val (.int (0 : Int32)), .val (.int (0 : Int32))] [(.int (1 : Int32))])) _
        exact retN X232 hx (t := .boolean) Bd.returns (by simp) (hb hby at_315) hr
      · show Qrm0 Z p0 p1 p2 p3 p4 wF wR G1 h0 n0 _ T232.heap _
        exact ⟨rfl, (fun y hy => Nat.le_trans Z0 (N232 y hy)), KC236⟩
    · have pre237 : ∀ t, Steps p.tables e below (T186.setTop (mkF m 48 #[.val (.int p0), .val (.int p1), .val (.int p2), .val (.int p3), .val (.int p4), .val (.int (0 : Int32)), .val (.int (2 : Int32)), .val (.int c_183), .val (.int c_184), .val (.int c_185), .val (.int c_186), .unset, .unset, .unset, .unset, .unset] [])) t → Steps p.tables e below (s₁.setTop (entryFrame m #[(.int p0), (.int p1), (.int p2), (.int p3), (.int p4)] maxLocals)) t := fun t k => pre187 t (by rw [hv188]; exact k)
      obtain ⟨T238, h238, X238, e238, E238, A238, D238, -, st238⟩ := newO X186 hx hZ hown (hw _ (List.mem_of_getElem? (i := 38) rfl)) (hw _ (List.mem_of_getElem? (i := 6) rfl)) (hw _ (List.mem_of_getElem? (i := 5) rfl)) e186 (g := (mkF m 92 #[.val (.int p0), .val (.int p1), .val (.int p2), .val (.int p3), .val (.int p4), .val (.int (0 : Int32)), .val (.int (2 : Int32)), .val (.int c_183), .val (.int c_184), .val (.int c_185), .val (.int c_186), .unset, .unset, .unset, .unset, .unset] [])) rfl (hb hby at_92) (by decide) (by decide)
      obtain ⟨b238, g238⟩ : ∃ z, z = h0.size := ⟨_, rfl⟩
      rw [← g238] at A238 D238 st238
      have z239 := E238.1
      have KC240 : Keep h0 h238 [] := KC0.ext E238
      have z241 : @LT.lt Nat _ b238 (Array.size h238) := A238.lt
      have F238_value : Fld Z h238 b238 "java/lang/String" "value" "[B" .null := D238 (Or.inr (hw _ (List.mem_of_getElem? (i := 8) rfl))) (ty := (.array .byte)) (by decide)
      have F238_coder : Fld Z h238 b238 "java/lang/String" "coder" "B" (.int (0 : Int32)) := D238 (Or.inr (hw _ (List.mem_of_getElem? (i := 9) rfl))) (ty := .byte) (by decide)
      obtain ⟨T242, h242, k242, X242, e242, E242, A242, st242⟩ := newP X238 hx hZ (hw _ (List.mem_of_getElem? (i := 39) rfl)) e238 (g := (mkF m 97 #[.val (.int p0), .val (.int p1), .val (.int p2), .val (.int p3), .val (.int p4), .val (.int (0 : Int32)), .val (.int (2 : Int32)), .val (.int c_183), .val (.int c_184), .val (.int c_185), .val (.int c_186), .unset, .unset, .unset, .unset, .unset] [(.int (2 : Int32)), (.ref b238), (.ref b238)])) rfl (hb hby at_97) rfl (by decide) (cap := 2) (by decide) (by decide) (by decide) (by decide)
      obtain ⟨b242, g242⟩ : ∃ z, z = h238.size := ⟨_, rfl⟩
      rw [← g242] at A242 st242
      have z243 := E242.1
      have KC244 : Keep h0 h242 [] := KC240.ext E242
      have V242 : Arv Z h242 b242 k242 .char (2 : Int32) [(.int (0 : Int32)), (.int (0 : Int32))] (.int (0 : Int32)) := (Arv.new A242 (by decide)).pad (pad_rep [] (.int (0 : Int32)) 2)
      have z245 : @LT.lt Nat _ b242 (Array.size h242) := V242.lt
      obtain ⟨cl246, Ar246, q246, S246, N246', H246, G246⟩ := id V242
      have hin246 : ¬ ((0 : Int32) < 0 ∨ cl246.slots.size ≤ ((0 : Int32)).toNatClampNeg) := inb_of S246 ⟨by decide, by decide⟩
      obtain ⟨T247, h247, X247, e247, W247, st247⟩ := stC X242 hx hZ e242 Ar246 (j := (0 : Int32)) hin246 (g := (mkF m 103 #[.val (.int p0), .val (.int p1), .val (.int p2), .val (.int p3), .val (.int p4), .val (.int (0 : Int32)), .val (.int (2 : Int32)), .val (.int c_183), .val (.int c_184), .val (.int c_185), .val (.int c_186), .unset, .unset, .unset, .unset, .unset] [(.int c_183), (.int (0 : Int32)), (.ref b242), (.ref b242), (.ref b238), (.ref b238)])) rfl rfl (hb hby at_103)
      have z248 := W247.size
      have N247 := Fr.snoc X247 N186 (by omega : h0.size ≤ b242)
      have KC249 : Keep h0 h247 [] := KC244.wr W247 (Or.inr (by omega))
      have V247 : Arv Z h247 b242 k242 .char (2 : Int32) [(.int (nar .char c_183)), (.int (0 : Int32))] (.int (0 : Int32)) := Arv.set Ar246 q246 S246 N246' H246 G246 (fits_nar_char _) W247 0 rfl (Nat.le_of_ble_eq_true rfl)
      rw [P183_1] at V247
      obtain ⟨cl250, Ar250, q250, S250, N250', H250, G250⟩ := id V247
      have hin250 : ¬ ((1 : Int32) < 0 ∨ cl250.slots.size ≤ ((1 : Int32)).toNatClampNeg) := inb_of S250 ⟨by decide, by decide⟩
      obtain ⟨T251, h251, X251, e251, W251, st251⟩ := stC X247 hx hZ e247 Ar250 (j := (1 : Int32)) hin250 (g := (mkF m 108 #[.val (.int p0), .val (.int p1), .val (.int p2), .val (.int p3), .val (.int p4), .val (.int (0 : Int32)), .val (.int (2 : Int32)), .val (.int c_183), .val (.int c_184), .val (.int c_185), .val (.int c_186), .unset, .unset, .unset, .unset, .unset] [(.int c_184), (.int (1 : Int32)), (.ref b242), (.ref b242), (.ref b238), (.ref b238)])) rfl rfl (hb hby at_108)
      have z252 := W251.size
      have N251 := Fr.snoc X251 N247 (by omega : h0.size ≤ b242)
      have KC253 : Keep h0 h251 [] := KC249.wr W251 (Or.inr (by omega))
      have V251 : Arv Z h251 b242 k242 .char (2 : Int32) [(.int c_183), (.int (nar .char c_184))] (.int (0 : Int32)) := Arv.set Ar250 q250 S250 N250' H250 G250 (fits_nar_char _) W251 1 rfl (Nat.le_of_ble_eq_true rfl)
      rw [P184_1] at V251
      have Fc255 := (((A238.ext E242).wr W247).wr W251)
      have Fc256 := (((F238_value.ext E242).other W247 (Or.inl (by omega : @Ne Nat b238 b242))).other W251 (Or.inl (by omega : @Ne Nat b238 b242)))
      have Fc257 := (((F238_coder.ext E242).other W247 (Or.inl (by omega : @Ne Nat b238 b242))).other W251 (Or.inl (by omega : @Ne Nat b238 b242)))
      have Fc258 := ((((H4.ext E238).ext E242).wr W247).wr W251)
      have hp254 : ∀ c ∈ ([c_183, c_184] : List Int32), ¬ c < 0 ∧ ¬ (255 : Int32) < c := by
        intro c hc
        simp only [List.mem_cons, List.not_mem_nil, or_false] at hc
        rcases hc with rfl | rfl
        · exact P183_0
        · exact P184_0
      obtain ⟨_, _, ⟨T254, L254, k254, n254⟩, -, X254, ⟨Lc254, hQ254, l254, y254, z254⟩, st254⟩ := X251.specialBack hx (y := (⟨"java/lang/String", "<init>", "([C)V"⟩ : MethodName)) rfl hown (mvT hZ (hw _ (List.mem_of_getElem? (i := 40) rfl))) (mvT hZ (hw _ (List.mem_of_getElem? (i := 41) rfl))) (mvT hZ (hw _ (List.mem_of_getElem? (i := 42) rfl))) (by decide) (StrChars.Road.backV (W := 1) hZ (fun d hd => hw d (own_words d hd)) (kI := 4) (hw _ (List.mem_of_getElem? (i := 6) rfl)) (cs := ([c_183, c_184] : List Int32)) (bs := (([c_183, c_184] : List Int32)).map (fun c => c.toInt8.toInt32)) (n := 2) (by omega : h0.size ≤ b238) (by omega : h0.size ≤ h251.size) Fc255 Fc256 Fc257 V251 Fc258 hG1 rfl rfl (by decide) (by decide) hp254 rfl (by decide) (by decide)) (g := (mkF m 109 #[.val (.int p0), .val (.int p1), .val (.int p2), .val (.int p3), .val (.int p4), .val (.int (0 : Int32)), .val (.int (2 : Int32)), .val (.int c_183), .val (.int c_184), .val (.int c_185), .val (.int c_186), .unset, .unset, .unset, .unset, .unset] [(.ref b242), (.ref b238), (.ref b238)])) rfl (by rw [hml]; rfl) (Steps.refl _) (a := b238) (argsL := [(.ref b242)]) (rest := [(.ref b238)]) (lenOf pd_3 rfl) rfl (by show 2 * 0 + _ ≤ _; exact Nat.le_of_eq rfl) (hb hby at_109) (fun _ _ => ⟨rfl, e251, (by decide : 2 + 1 ≤ _), (by decide : 6 + 2 ≤ _)⟩)
      dsimp only [Pt.U, Pt.locs, Pt.cells, Pt.slots] at X254 l254 y254 z254 st254 hQ254
      subst l254 y254 z254
      obtain ⟨rfl, N254q, K254, P254E, P254C, bv254, kb254, u254a, u254b, u254c, P254V, P254A⟩ := hQ254
      have N254 := Fr.app N251 N254q
      have z259 := K254.1
      have KC260 : Keep h0 T254.heap [] := KC253.trans K254 (allS (Or.inr (by omega)) all0)
      have P254B : Arv Z T254.heap bv254 kb254 .byte (2 : Int32) [(.int (c_183).toInt8.toInt32), (.int (c_184).toInt8.toInt32)] (.int (0 : Int32)) := P254A
      have z261 : @LT.lt Nat _ b238 (Array.size T254.heap) := P254E.lt
      have z262 : @LT.lt Nat _ bv254 (Array.size T254.heap) := P254A.lt
      have Fc263 := (own_staK ((((H1.ext E238).ext E242).wr W247).wr W251) K254 (allS ⟨_, Fc255⟩ all0))
      obtain ⟨T264, X264, e264, st264⟩ := getS2 X254 hx hZ hown (host := "") (Or.inl (hw _ (List.mem_of_getElem? (i := 12) rfl))) Via.refl rfl Fc263 (g := (mkF m 196 #[.val (.int p0), .val (.int p1), .val (.int p2), .val (.int p3), .val (.int p4), .val (.int (0 : Int32)), .val (.int (2 : Int32)), .val (.int c_183), .val (.int c_184), .val (.int c_185), .val (.int c_186), .val (.ref b238), .unset, .unset, .unset, .unset] [])) rfl (hb hby at_196)
      have Xo265 : Ext Z.heap T254.heap := own_extT X00 (own_ext KC260)
      have Fc266 := (own_staK ((((H0.ext E238).ext E242).wr W247).wr W251) K254 (allS ⟨_, Fc255⟩ all0))
      have Fc267 := (own_staK Fc258 K254 (allS ⟨_, Fc255⟩ all0))
      have z269 := congrArg Array.size e264
      have Fc270 := (((((H3.ext E238).ext E242).wr W247).wr W251).keep K254)
      obtain ⟨cq268, kq268, qa268, qb268, qc268⟩ := isOf hZ e264 Fc270
      obtain ⟨_, _, ⟨T268, L268, k268, n268⟩, -, Y268, hY268, gY268, ⟨Lc268, hQ268, l268, y268, z268⟩, st268⟩ := X264.virtualBackS hx (y := (⟨"com/example/task_relay/taskrelay/Scope", "allows", "(Ljava/lang/String;)Z"⟩ : MethodName)) (z := (⟨"com/example/task_relay/taskrelay/Scope", "allows", "(Ljava/lang/String;)Z"⟩ : MethodName)) hown (mvT hZ (hw _ (List.mem_of_getElem? (i := 15) rfl))) (mvT hZ (hw _ (List.mem_of_getElem? (i := 16) rfl))) (notFace_of_selects (args := #[]) (mvT hZ (hw _ (List.mem_of_getElem? (i := 18) rfl)))) (mvT hZ (hw _ (List.mem_of_getElem? (i := 18) rfl))) (mvT hZ (hw _ (List.mem_of_getElem? (i := 17) rfl))) (by decide) (backOfI (W := 0) (rmar2 l Z a0 hw [] wR b238 wF G1 bv254 kb254 c_183 c_184 T254.heap h0.size (by omega) Fc266 Fc267 (hG1 : ¬ (G1 = (0 : Int32))) (hh58 : Jvm.Lit.constHeld Z "com/example/task_relay/taskrelay/Scope" 58) (hh60 : Jvm.Lit.constHeld Z "com/example/task_relay/taskrelay/Scope" 60) (Xo265 : Ext Z.heap T254.heap) (hcw : Jvm.Lit.compactW.before a0 Z = true) (hne : ¬ (wR = wF)) P254E P254C P254V P254B (P183_0 : ¬ (c_183 < 0) ∧ ¬ ((255 : Int32) < c_183)) (P184_0 : ¬ (c_184 < 0) ∧ ¬ ((255 : Int32) < c_184))) hZ (hw _ (List.mem_of_getElem? (i := 19) rfl)) (hw _ (List.mem_of_getElem? (i := 13) rfl)) (by decide) (by decide)) qa268 qc268 (g := (mkF m 302 #[.val (.int p0), .val (.int p1), .val (.int p2), .val (.int p3), .val (.int p4), .val (.int (0 : Int32)), .val (.int (2 : Int32)), .val (.int c_183), .val (.int c_184), .val (.int c_185), .val (.int c_186), .val (.ref b238), .val (.ref wR), .val (.int (0 : Int32)), .val (.int (0 : Int32)), .val (.int (0 : Int32))] [(.ref b238), (.ref wR)])) rfl (by rw [hml]; rfl) (Steps.refl _) (argsL := [(.ref b238)]) (rest := []) (lenOf pd_2 rfl) rfl (by show 2 * 0 + _ ≤ _; exact Nat.le_of_eq rfl) (hb hby at_302) (fun _ Hw => ⟨rfl, e264, (by decide : 3 + 4 ≤ _), (by decide : 8 + 36 ≤ _), own_IBw hI Hw⟩)
      dsimp only [Pt.U, Pt.locs, Pt.cells, Pt.slots] at Y268 hY268 gY268 l268 y268 z268 st268 hQ268
      subst l268 y268 z268
      obtain ⟨X268, hS268, hZ268, hw268⟩ := rebS (s := s) (vm0 := s.vm) hS0 (by omega : h0.size ≤ T264.heap.size) Y268 hY268 gY268 hZ hown
      obtain ⟨rfl, N268q, K268⟩ := hQ268
      have N268 := Fr.app N254 N268q
      have z271 := K268.1
      have KC272 : Keep h0 T268.heap [] := KC260.trans K268 all0
      obtain ⟨fs, hr, hrun, hended, rE1, rE2, rE3, rE4⟩ := leaveW (s := s) (vm₁ := T268.vm) X268 hS268 (by omega : T268.heap.size ≤ T268.heap.size) (v := some (.int (1 : Int32))) (fun h => by rw [Bd.returns] at h; cases h)
      refine ⟨_, _, pre237 _ ?_, hrun, hended, _, _, rfl, ?_, rE1, rE2, rE3, rE4.mono (by decide) (by decide)⟩
      · show Steps p.tables e below (T186.setTop (mkF m 48 #[.val (.int p0), .val (.int p1), .val (.int p2), .val (.int p3), .val (.int p4), .val (.int (0 : Int32)), .val (.int (2 : Int32)), .val (.int c_183), .val (.int c_184), .val (.int c_185), .val (.int c_186), .unset, .unset, .unset, .unset, .unset] [])) _
        refine XS.iload X186.here hx rfl (hb hby at_48) rfl ?_
        show Steps p.tables e below (T186.setTop (mkF m 50 #[.val (.int p0), .val (.int p1), .val (.int p2), .val (.int p3), .val (.int p4), .val (.int (0 : Int32)), .val (.int (2 : Int32)), .val (.int c_183), .val (.int c_184), .val (.int c_185), .val (.int c_186), .unset, .unset, .unset, .unset, .unset] [(.int (2 : Int32))])) _
        refine XS.ifYes X186.here hx rfl (pc0 := 50) (pc' := 60) rfl (hb hby at_50) rfl ((if0 _ _).trans (feq (by decide : ¬ ((2 : Int32) = (0 : Int32)))).2) (by decide) (by decide) ?_
        show Steps p.tables e below (T186.setTop (mkF m 60 #[.val (.int p0), .val (.int p1), .val (.int p2), .val (.int p3), .val (.int p4), .val (.int (0 : Int32)), .val (.int (2 : Int32)), .val (.int c_183), .val (.int c_184), .val (.int c_185), .val (.int c_186), .unset, .unset, .unset, .unset, .unset] [])) _
        refine XS.iload X186.here hx rfl (hb hby at_60) rfl ?_
        show Steps p.tables e below (T186.setTop (mkF m 62 #[.val (.int p0), .val (.int p1), .val (.int p2), .val (.int p3), .val (.int p4), .val (.int (0 : Int32)), .val (.int (2 : Int32)), .val (.int c_183), .val (.int c_184), .val (.int c_185), .val (.int c_186), .unset, .unset, .unset, .unset, .unset] [(.int (2 : Int32))])) _
        refine XS.iconst X186.here hx rfl (hb hby at_62) ?_
        show Steps p.tables e below (T186.setTop (mkF m 63 #[.val (.int p0), .val (.int p1), .val (.int p2), .val (.int p3), .val (.int p4), .val (.int (0 : Int32)), .val (.int (2 : Int32)), .val (.int c_183), .val (.int c_184), .val (.int c_185), .val (.int c_186), .unset, .unset, .unset, .unset, .unset] [(.int (1 : Int32)), (.int (2 : Int32))])) _
        refine XS.icmpYes X186.here hx rfl (pc0 := 63) (pc' := 86) rfl (hb hby at_63) rfl (feq (by decide : ¬ ((2 : Int32) = (1 : Int32)))).2 (by decide) (by decide) ?_
        show Steps p.tables e below (T186.setTop (mkF m 86 #[.val (.int p0), .val (.int p1), .val (.int p2), .val (.int p3), .val (.int p4), .val (.int (0 : Int32)), .val (.int (2 : Int32)), .val (.int c_183), .val (.int c_184), .val (.int c_185), .val (.int c_186), .unset, .unset, .unset, .unset, .unset] [])) _
        refine XS.iload X186.here hx rfl (hb hby at_86) rfl ?_
        show Steps p.tables e below (T186.setTop (mkF m 88 #[.val (.int p0), .val (.int p1), .val (.int p2), .val (.int p3), .val (.int p4), .val (.int (0 : Int32)), .val (.int (2 : Int32)), .val (.int c_183), .val (.int c_184), .val (.int c_185), .val (.int c_186), .unset, .unset, .unset, .unset, .unset] [(.int (2 : Int32))])) _
        refine XS.iconst X186.here hx rfl (hb hby at_88) ?_
        show Steps p.tables e below (T186.setTop (mkF m 89 #[.val (.int p0), .val (.int p1), .val (.int p2), .val (.int p3), .val (.int p4), .val (.int (0 : Int32)), .val (.int (2 : Int32)), .val (.int c_183), .val (.int c_184), .val (.int c_185), .val (.int c_186), .unset, .unset, .unset, .unset, .unset] [(.int (2 : Int32)), (.int (2 : Int32))])) _
        refine XS.icmpNo X186.here hx rfl (hb hby at_89) rfl (teq (by decide : (2 : Int32) = (2 : Int32))).2 ?_
        show Steps p.tables e below (T186.setTop (mkF m 92 #[.val (.int p0), .val (.int p1), .val (.int p2), .val (.int p3), .val (.int p4), .val (.int (0 : Int32)), .val (.int (2 : Int32)), .val (.int c_183), .val (.int c_184), .val (.int c_185), .val (.int c_186), .unset, .unset, .unset, .unset, .unset] [])) _
        refine st238 _ ?_
        show Steps p.tables e below (T238.setTop (mkF m 95 #[.val (.int p0), .val (.int p1), .val (.int p2), .val (.int p3), .val (.int p4), .val (.int (0 : Int32)), .val (.int (2 : Int32)), .val (.int c_183), .val (.int c_184), .val (.int c_185), .val (.int c_186), .unset, .unset, .unset, .unset, .unset] [(.ref b238)])) _
        refine XS.dup X238.here hx rfl (hb hby at_95) rfl rfl ?_
        show Steps p.tables e below (T238.setTop (mkF m 96 #[.val (.int p0), .val (.int p1), .val (.int p2), .val (.int p3), .val (.int p4), .val (.int (0 : Int32)), .val (.int (2 : Int32)), .val (.int c_183), .val (.int c_184), .val (.int c_185), .val (.int c_186), .unset, .unset, .unset, .unset, .unset] [(.ref b238), (.ref b238)])) _
        refine XS.iconst X238.here hx rfl (hb hby at_96) ?_
        show Steps p.tables e below (T238.setTop (mkF m 97 #[.val (.int p0), .val (.int p1), .val (.int p2), .val (.int p3), .val (.int p4), .val (.int (0 : Int32)), .val (.int (2 : Int32)), .val (.int c_183), .val (.int c_184), .val (.int c_185), .val (.int c_186), .unset, .unset, .unset, .unset, .unset] [(.int (2 : Int32)), (.ref b238), (.ref b238)])) _
        refine st242 _ ?_
        show Steps p.tables e below (T242.setTop (mkF m 99 #[.val (.int p0), .val (.int p1), .val (.int p2), .val (.int p3), .val (.int p4), .val (.int (0 : Int32)), .val (.int (2 : Int32)), .val (.int c_183), .val (.int c_184), .val (.int c_185), .val (.int c_186), .unset, .unset, .unset, .unset, .unset] [(.ref b242), (.ref b238), (.ref b238)])) _
        refine XS.dup X242.here hx rfl (hb hby at_99) rfl rfl ?_
        show Steps p.tables e below (T242.setTop (mkF m 100 #[.val (.int p0), .val (.int p1), .val (.int p2), .val (.int p3), .val (.int p4), .val (.int (0 : Int32)), .val (.int (2 : Int32)), .val (.int c_183), .val (.int c_184), .val (.int c_185), .val (.int c_186), .unset, .unset, .unset, .unset, .unset] [(.ref b242), (.ref b242), (.ref b238), (.ref b238)])) _
        refine XS.iconst X242.here hx rfl (hb hby at_100) ?_
        show Steps p.tables e below (T242.setTop (mkF m 101 #[.val (.int p0), .val (.int p1), .val (.int p2), .val (.int p3), .val (.int p4), .val (.int (0 : Int32)), .val (.int (2 : Int32)), .val (.int c_183), .val (.int c_184), .val (.int c_185), .val (.int c_186), .unset, .unset, .unset, .unset, .unset] [(.int (0 : Int32)), (.ref b242), (.ref b242), (.ref b238), (.ref b238)])) _
        refine XS.iload X242.here hx rfl (hb hby at_101) rfl ?_
        show Steps p.tables e below (T242.setTop (mkF m 103 #[.val (.int p0), .val (.int p1), .val (.int p2), .val (.int p3), .val (.int p4), .val (.int (0 : Int32)), .val (.int (2 : Int32)), .val (.int c_183), .val (.int c_184), .val (.int c_185), .val (.int c_186), .unset, .unset, .unset, .unset, .unset] [(.int c_183), (.int (0 : Int32)), (.ref b242), (.ref b242), (.ref b238), (.ref b238)])) _
        refine st247 _ ?_
        show Steps p.tables e below (T247.setTop (mkF m 104 #[.val (.int p0), .val (.int p1), .val (.int p2), .val (.int p3), .val (.int p4), .val (.int (0 : Int32)), .val (.int (2 : Int32)), .val (.int c_183), .val (.int c_184), .val (.int c_185), .val (.int c_186), .unset, .unset, .unset, .unset, .unset] [(.ref b242), (.ref b238), (.ref b238)])) _
        refine XS.dup X247.here hx rfl (hb hby at_104) rfl rfl ?_
        show Steps p.tables e below (T247.setTop (mkF m 105 #[.val (.int p0), .val (.int p1), .val (.int p2), .val (.int p3), .val (.int p4), .val (.int (0 : Int32)), .val (.int (2 : Int32)), .val (.int c_183), .val (.int c_184), .val (.int c_185), .val (.int c_186), .unset, .unset, .unset, .unset, .unset] [(.ref b242), (.ref b242), (.ref b238), (.ref b238)])) _
        refine XS.iconst X247.here hx rfl (hb hby at_105) ?_
        show Steps p.tables e below (T247.setTop (mkF m 106 #[.val (.int p0), .val (.int p1), .val (.int p2), .val (.int p3), .val (.int p4), .val (.int (0 : Int32)), .val (.int (2 : Int32)), .val (.int c_183), .val (.int c_184), .val (.int c_185), .val (.int c_186), .unset, .unset, .unset, .unset, .unset] [(.int (1 : Int32)), (.ref b242), (.ref b242), (.ref b238), (.ref b238)])) _
        refine XS.iload X247.here hx rfl (hb hby at_106) rfl ?_
        show Steps p.tables e below (T247.setTop (mkF m 108 #[.val (.int p0), .val (.int p1), .val (.int p2), .val (.int p3), .val (.int p4), .val (.int (0 : Int32)), .val (.int (2 : Int32)), .val (.int c_183), .val (.int c_184), .val (.int c_185), .val (.int c_186), .unset, .unset, .unset, .unset, .unset] [(.int c_184), (.int (1 : Int32)), (.ref b242), (.ref b242), (.ref b238), (.ref b238)])) _
        refine st251 _ ?_
        show Steps p.tables e below (T251.setTop (mkF m 109 #[.val (.int p0), .val (.int p1), .val (.int p2), .val (.int p3), .val (.int p4), .val (.int (0 : Int32)), .val (.int (2 : Int32)), .val (.int c_183), .val (.int c_184), .val (.int c_185), .val (.int c_186), .unset, .unset, .unset, .unset, .unset] [(.ref b242), (.ref b238), (.ref b238)])) _
        refine st254.trans ?_
        show Steps p.tables e below (T254.setTop (mkF m 112 #[.val (.int p0), .val (.int p1), .val (.int p2), .val (.int p3), .val (.int p4), .val (.int (0 : Int32)), .val (.int (2 : Int32)), .val (.int c_183), .val (.int c_184), .val (.int c_185), .val (.int c_186), .unset, .unset, .unset, .unset, .unset] [(.ref b238)])) _
        refine XS.astore X254.here hx rfl (hb hby at_112) rfl rfl (l' := #[.val (.int p0), .val (.int p1), .val (.int p2), .val (.int p3), .val (.int p4), .val (.int (0 : Int32)), .val (.int (2 : Int32)), .val (.int c_183), .val (.int c_184), .val (.int c_185), .val (.int c_186), .val (.ref b238), .unset, .unset, .unset, .unset]) rfl ?_
        show Steps p.tables e below (T254.setTop (mkF m 114 #[.val (.int p0), .val (.int p1), .val (.int p2), .val (.int p3), .val (.int p4), .val (.int (0 : Int32)), .val (.int (2 : Int32)), .val (.int c_183), .val (.int c_184), .val (.int c_185), .val (.int c_186), .val (.ref b238), .unset, .unset, .unset, .unset] [])) _
        refine XS.goto X254.here hx rfl (pc0 := 114) (pc' := 185) rfl (hb hby at_114) (by decide) (by decide) ?_
        show Steps p.tables e below (T254.setTop (mkF m 185 #[.val (.int p0), .val (.int p1), .val (.int p2), .val (.int p3), .val (.int p4), .val (.int (0 : Int32)), .val (.int (2 : Int32)), .val (.int c_183), .val (.int c_184), .val (.int c_185), .val (.int c_186), .val (.ref b238), .unset, .unset, .unset, .unset] [])) _
        refine XS.iload X254.here hx rfl (hb hby at_185) rfl ?_
        show Steps p.tables e below (T254.setTop (mkF m 187 #[.val (.int p0), .val (.int p1), .val (.int p2), .val (.int p3), .val (.int p4), .val (.int (0 : Int32)), .val (.int (2 : Int32)), .val (.int c_183), .val (.int c_184), .val (.int c_185), .val (.int c_186), .val (.ref b238), .unset, .unset, .unset, .unset] [(.int (0 : Int32))])) _
        refine XS.ifYes X254.here hx rfl (pc0 := 187) (pc' := 196) rfl (hb hby at_187) rfl ((if0 _ _).trans (teq (by decide : (0 : Int32) = (0 : Int32))).1) (by decide) (by decide) ?_
        show Steps p.tables e below (T254.setTop (mkF m 196 #[.val (.int p0), .val (.int p1), .val (.int p2), .val (.int p3), .val (.int p4), .val (.int (0 : Int32)), .val (.int (2 : Int32)), .val (.int c_183), .val (.int c_184), .val (.int c_185), .val (.int c_186), .val (.ref b238), .unset, .unset, .unset, .unset] [])) _
        refine st264 _ ?_
        show Steps p.tables e below (T264.setTop (mkF m 199 #[.val (.int p0), .val (.int p1), .val (.int p2), .val (.int p3), .val (.int p4), .val (.int (0 : Int32)), .val (.int (2 : Int32)), .val (.int c_183), .val (.int c_184), .val (.int c_185), .val (.int c_186), .val (.ref b238), .unset, .unset, .unset, .unset] [(.ref wR)])) _
        refine XS.astore X264.here hx rfl (hb hby at_199) rfl rfl (l' := #[.val (.int p0), .val (.int p1), .val (.int p2), .val (.int p3), .val (.int p4), .val (.int (0 : Int32)), .val (.int (2 : Int32)), .val (.int c_183), .val (.int c_184), .val (.int c_185), .val (.int c_186), .val (.ref b238), .val (.ref wR), .unset, .unset, .unset]) rfl ?_
        show Steps p.tables e below (T264.setTop (mkF m 201 #[.val (.int p0), .val (.int p1), .val (.int p2), .val (.int p3), .val (.int p4), .val (.int (0 : Int32)), .val (.int (2 : Int32)), .val (.int c_183), .val (.int c_184), .val (.int c_185), .val (.int c_186), .val (.ref b238), .val (.ref wR), .unset, .unset, .unset] [])) _
        refine XS.iload X264.here hx rfl (hb hby at_201) rfl ?_
        show Steps p.tables e below (T264.setTop (mkF m 203 #[.val (.int p0), .val (.int p1), .val (.int p2), .val (.int p3), .val (.int p4), .val (.int (0 : Int32)), .val (.int (2 : Int32)), .val (.int c_183), .val (.int c_184), .val (.int c_185), .val (.int c_186), .val (.ref b238), .val (.ref wR), .unset, .unset, .unset] [(.int (2 : Int32))])) _
        refine XS.iconst X264.here hx rfl (hb hby at_203) ?_
        show Steps p.tables e below (T264.setTop (mkF m 204 #[.val (.int p0), .val (.int p1), .val (.int p2), .val (.int p3), .val (.int p4), .val (.int (0 : Int32)), .val (.int (2 : Int32)), .val (.int c_183), .val (.int c_184), .val (.int c_185), .val (.int c_186), .val (.ref b238), .val (.ref wR), .unset, .unset, .unset] [(.int (3 : Int32)), (.int (2 : Int32))])) _
        refine XS.icmpYes X264.here hx rfl (pc0 := 204) (pc' := 232) rfl (hb hby at_204) rfl (feq (by decide : ¬ ((2 : Int32) = (3 : Int32)))).2 (by decide) (by decide) ?_
        show Steps p.tables e below (T264.setTop (mkF m 232 #[.val (.int p0), .val (.int p1), .val (.int p2), .val (.int p3), .val (.int p4), .val (.int (0 : Int32)), .val (.int (2 : Int32)), .val (.int c_183), .val (.int c_184), .val (.int c_185), .val (.int c_186), .val (.ref b238), .val (.ref wR), .unset, .unset, .unset] [])) _
        refine XS.iconst X264.here hx rfl (hb hby at_232) ?_
        show Steps p.tables e below (T264.setTop (mkF m 233 #[.val (.int p0), .val (.int p1), .val (.int p2), .val (.int p3), .val (.int p4), .val (.int (0 : Int32)), .val (.int (2 : Int32)), .val (.int c_183), .val (.int c_184), .val (.int c_185), .val (.int c_186), .val (.ref b238), .val (.ref wR), .unset, .unset, .unset] [(.int (0 : Int32))])) _
        refine XS.istore X264.here hx rfl (hb hby at_233) rfl (l' := #[.val (.int p0), .val (.int p1), .val (.int p2), .val (.int p3), .val (.int p4), .val (.int (0 : Int32)), .val (.int (2 : Int32)), .val (.int c_183), .val (.int c_184), .val (.int c_185), .val (.int c_186), .val (.ref b238), .val (.ref wR), .val (.int (0 : Int32)), .unset, .unset]) rfl ?_
        show Steps p.tables e below (T264.setTop (mkF m 235 #[.val (.int p0), .val (.int p1), .val (.int p2), .val (.int p3), .val (.int p4), .val (.int (0 : Int32)), .val (.int (2 : Int32)), .val (.int c_183), .val (.int c_184), .val (.int c_185), .val (.int c_186), .val (.ref b238), .val (.ref wR), .val (.int (0 : Int32)), .unset, .unset] [])) _
        refine XS.iload X264.here hx rfl (hb hby at_235) rfl ?_
        show Steps p.tables e below (T264.setTop (mkF m 237 #[.val (.int p0), .val (.int p1), .val (.int p2), .val (.int p3), .val (.int p4), .val (.int (0 : Int32)), .val (.int (2 : Int32)), .val (.int c_183), .val (.int c_184), .val (.int c_185), .val (.int c_186), .val (.ref b238), .val (.ref wR), .val (.int (0 : Int32)), .unset, .unset] [(.int (2 : Int32))])) _
        refine XS.iconst X264.here hx rfl (hb hby at_237) ?_
        show Steps p.tables e below (T264.setTop (mkF m 238 #[.val (.int p0), .val (.int p1), .val (.int p2), .val (.int p3), .val (.int p4), .val (.int (0 : Int32)), .val (.int (2 : Int32)), .val (.int c_183), .val (.int c_184), .val (.int c_185), .val (.int c_186), .val (.ref b238), .val (.ref wR), .val (.int (0 : Int32)), .unset, .unset] [(.int (4 : Int32)), (.int (2 : Int32))])) _
        refine XS.icmpYes X264.here hx rfl (pc0 := 238) (pc' := 273) rfl (hb hby at_238) rfl (feq (by decide : ¬ ((2 : Int32) = (4 : Int32)))).2 (by decide) (by decide) ?_
        show Steps p.tables e below (T264.setTop (mkF m 273 #[.val (.int p0), .val (.int p1), .val (.int p2), .val (.int p3), .val (.int p4), .val (.int (0 : Int32)), .val (.int (2 : Int32)), .val (.int c_183), .val (.int c_184), .val (.int c_185), .val (.int c_186), .val (.ref b238), .val (.ref wR), .val (.int (0 : Int32)), .unset, .unset] [])) _
        refine XS.iconst X264.here hx rfl (hb hby at_273) ?_
        show Steps p.tables e below (T264.setTop (mkF m 274 #[.val (.int p0), .val (.int p1), .val (.int p2), .val (.int p3), .val (.int p4), .val (.int (0 : Int32)), .val (.int (2 : Int32)), .val (.int c_183), .val (.int c_184), .val (.int c_185), .val (.int c_186), .val (.ref b238), .val (.ref wR), .val (.int (0 : Int32)), .unset, .unset] [(.int (0 : Int32))])) _
        refine XS.istore X264.here hx rfl (hb hby at_274) rfl (l' := #[.val (.int p0), .val (.int p1), .val (.int p2), .val (.int p3), .val (.int p4), .val (.int (0 : Int32)), .val (.int (2 : Int32)), .val (.int c_183), .val (.int c_184), .val (.int c_185), .val (.int c_186), .val (.ref b238), .val (.ref wR), .val (.int (0 : Int32)), .val (.int (0 : Int32)), .unset]) rfl ?_
        show Steps p.tables e below (T264.setTop (mkF m 276 #[.val (.int p0), .val (.int p1), .val (.int p2), .val (.int p3), .val (.int p4), .val (.int (0 : Int32)), .val (.int (2 : Int32)), .val (.int c_183), .val (.int c_184), .val (.int c_185), .val (.int c_186), .val (.ref b238), .val (.ref wR), .val (.int (0 : Int32)), .val (.int (0 : Int32)), .unset] [])) _
        refine XS.iload X264.here hx rfl (hb hby at_276) rfl ?_
        show Steps p.tables e below (T264.setTop (mkF m 278 #[.val (.int p0), .val (.int p1), .val (.int p2), .val (.int p3), .val (.int p4), .val (.int (0 : Int32)), .val (.int (2 : Int32)), .val (.int c_183), .val (.int c_184), .val (.int c_185), .val (.int c_186), .val (.ref b238), .val (.ref wR), .val (.int (0 : Int32)), .val (.int (0 : Int32)), .unset] [(.int (0 : Int32))])) _
        refine XS.ifNo X264.here hx rfl (hb hby at_278) rfl ((if0 _ _).trans (teq (by decide : (0 : Int32) = (0 : Int32))).2) ?_
        show Steps p.tables e below (T264.setTop (mkF m 281 #[.val (.int p0), .val (.int p1), .val (.int p2), .val (.int p3), .val (.int p4), .val (.int (0 : Int32)), .val (.int (2 : Int32)), .val (.int c_183), .val (.int c_184), .val (.int c_185), .val (.int c_186), .val (.ref b238), .val (.ref wR), .val (.int (0 : Int32)), .val (.int (0 : Int32)), .unset] [])) _
        refine XS.iload X264.here hx rfl (hb hby at_281) rfl ?_
        show Steps p.tables e below (T264.setTop (mkF m 283 #[.val (.int p0), .val (.int p1), .val (.int p2), .val (.int p3), .val (.int p4), .val (.int (0 : Int32)), .val (.int (2 : Int32)), .val (.int c_183), .val (.int c_184), .val (.int c_185), .val (.int c_186), .val (.ref b238), .val (.ref wR), .val (.int (0 : Int32)), .val (.int (0 : Int32)), .unset] [(.int (0 : Int32))])) _
        refine XS.ifNo X264.here hx rfl (hb hby at_283) rfl ((if0 _ _).trans (teq (by decide : (0 : Int32) = (0 : Int32))).2) ?_
        show Steps p.tables e below (T264.setTop (mkF m 286 #[.val (.int p0), .val (.int p1), .val (.int p2), .val (.int p3), .val (.int p4), .val (.int (0 : Int32)), .val (.int (2 : Int32)), .val (.int c_183), .val (.int c_184), .val (.int c_185), .val (.int c_186), .val (.ref b238), .val (.ref wR), .val (.int (0 : Int32)), .val (.int (0 : Int32)), .unset] [])) _
        refine XS.iload X264.here hx rfl (hb hby at_286) rfl ?_
        show Steps p.tables e below (T264.setTop (mkF m 288 #[.val (.int p0), .val (.int p1), .val (.int p2), .val (.int p3), .val (.int p4), .val (.int (0 : Int32)), .val (.int (2 : Int32)), .val (.int c_183), .val (.int c_184), .val (.int c_185), .val (.int c_186), .val (.ref b238), .val (.ref wR), .val (.int (0 : Int32)), .val (.int (0 : Int32)), .unset] [(.int (0 : Int32))])) _
        refine XS.ifYes X264.here hx rfl (pc0 := 288) (pc' := 295) rfl (hb hby at_288) rfl ((if0 _ _).trans (teq (by decide : (0 : Int32) = (0 : Int32))).1) (by decide) (by decide) ?_
        show Steps p.tables e below (T264.setTop (mkF m 295 #[.val (.int p0), .val (.int p1), .val (.int p2), .val (.int p3), .val (.int p4), .val (.int (0 : Int32)), .val (.int (2 : Int32)), .val (.int c_183), .val (.int c_184), .val (.int c_185), .val (.int c_186), .val (.ref b238), .val (.ref wR), .val (.int (0 : Int32)), .val (.int (0 : Int32)), .unset] [])) _
        refine XS.iconst X264.here hx rfl (hb hby at_295) ?_
        show Steps p.tables e below (T264.setTop (mkF m 296 #[.val (.int p0), .val (.int p1), .val (.int p2), .val (.int p3), .val (.int p4), .val (.int (0 : Int32)), .val (.int (2 : Int32)), .val (.int c_183), .val (.int c_184), .val (.int c_185), .val (.int c_186), .val (.ref b238), .val (.ref wR), .val (.int (0 : Int32)), .val (.int (0 : Int32)), .unset] [(.int (0 : Int32))])) _
        refine XS.istore X264.here hx rfl (hb hby at_296) rfl (l' := #[.val (.int p0), .val (.int p1), .val (.int p2), .val (.int p3), .val (.int p4), .val (.int (0 : Int32)), .val (.int (2 : Int32)), .val (.int c_183), .val (.int c_184), .val (.int c_185), .val (.int c_186), .val (.ref b238), .val (.ref wR), .val (.int (0 : Int32)), .val (.int (0 : Int32)), .val (.int (0 : Int32))]) rfl ?_
        show Steps p.tables e below (T264.setTop (mkF m 298 #[.val (.int p0), .val (.int p1), .val (.int p2), .val (.int p3), .val (.int p4), .val (.int (0 : Int32)), .val (.int (2 : Int32)), .val (.int c_183), .val (.int c_184), .val (.int c_185), .val (.int c_186), .val (.ref b238), .val (.ref wR), .val (.int (0 : Int32)), .val (.int (0 : Int32)), .val (.int (0 : Int32))] [])) _
        refine XS.aload X264.here hx rfl (hb hby at_298) rfl rfl ?_
        show Steps p.tables e below (T264.setTop (mkF m 300 #[.val (.int p0), .val (.int p1), .val (.int p2), .val (.int p3), .val (.int p4), .val (.int (0 : Int32)), .val (.int (2 : Int32)), .val (.int c_183), .val (.int c_184), .val (.int c_185), .val (.int c_186), .val (.ref b238), .val (.ref wR), .val (.int (0 : Int32)), .val (.int (0 : Int32)), .val (.int (0 : Int32))] [(.ref wR)])) _
        refine XS.aload X264.here hx rfl (hb hby at_300) rfl rfl ?_
        show Steps p.tables e below (T264.setTop (mkF m 302 #[.val (.int p0), .val (.int p1), .val (.int p2), .val (.int p3), .val (.int p4), .val (.int (0 : Int32)), .val (.int (2 : Int32)), .val (.int c_183), .val (.int c_184), .val (.int c_185), .val (.int c_186), .val (.ref b238), .val (.ref wR), .val (.int (0 : Int32)), .val (.int (0 : Int32)), .val (.int (0 : Int32))] [(.ref b238), (.ref wR)])) _
        refine st268.trans ?_
        show Steps p.tables e below (T268.setTop (mkF m 305 #[.val (.int p0), .val (.int p1), .val (.int p2), .val (.int p3), .val (.int p4), .val (.int (0 : Int32)), .val (.int (2 : Int32)), .val (.int c_183), .val (.int c_184), .val (.int c_185), .val (.int c_186), .val (.ref b238), .val (.ref wR), .val (.int (0 : Int32)), .val (.int (0 : Int32)), .val (.int (0 : Int32))] [(.int (0 : Int32))])) _
        refine XS.iload X268.here hx rfl (hb hby at_305) rfl ?_
        show Steps p.tables e below (T268.setTop (mkF m 307 #[.val (.int p0), .val (.int p1), .val (.int p2), .val (.int p3), .val (.int p4), .val (.int (0 : Int32)), .val (.int (2 : Int32)), .val (.int c_183), .val (.int c_184), .val (.int c_185), .val (.int c_186), .val (.ref b238), .val (.ref wR), .val (.int (0 : Int32)), .val (.int (0 : Int32)), .val (.int (0 : Int32))] [(.int (0 : Int32)), (.int (0 : Int32))])) _
        refine XS.icmpNo X268.here hx rfl (hb hby at_307) rfl (teq (by decide : (0 : Int32) = (0 : Int32))).2 ?_
        show Steps p.tables e below (T268.setTop (mkF m 310 #[.val (.int p0), .val (.int p1), .val (.int p2), .val (.int p3), .val (.int p4), .val (.int (0 : Int32)), .val (.int (2 : Int32)), .val (.int c_183), .val (.int c_184), .val (.int c_185), .val (.int c_186), .val (.ref b238), .val (.ref wR), .val (.int (0 : Int32)), .val (.int (0 : Int32)), .val (.int (0 : Int32))] [])) _
        refine XS.iconst X268.here hx rfl (hb hby at_310) ?_
        show Steps p.tables e below (T268.setTop (mkF m 311 #[.val (.int p0), .val (.int p1), .val (.int p2), .val (.int p3), .val (.int p4), .val (.int (0 : Int32)), .val (.int (2 : Int32)), .val (.int c_183), .val (.int c_184), .val (.int c_185), .val (.int c_186), .val (.ref b238), .val (.ref wR), .val (.int (0 : Int32)), .val (.int (0 : Int32)), .val (.int (0 : Int32))] [(.int (1 : Int32))])) _
        refine XS.goto X268.here hx rfl (pc0 := 311) (pc' := 315) rfl (hb hby at_311) (by decide) (by decide) ?_
        show Steps p.tables e below (T268.setTop (mkF m 315 #[.val (.int p0), .val (.int p1), .val (.int p2), .val (.int p3), .val (.int p4), .val (.int (0 : Int32)), .val (.int (2 : Int32)), .val (.int c_183), .val (.int c_184), .val (.int c_185), .val (.int c_186), .val (.ref b238), .val (.ref wR), .val (.int (0 : Int32)), .val (.int (0 : Int32)), .val (.int (0 : Int32))] [(.int (1 : Int32))])) _
        exact retN X268 hx (t := .boolean) Bd.returns (by simp) (hb hby at_315) hr
      · show Qrm0 Z p0 p1 p2 p3 p4 wF wR G1 h0 n0 _ T268.heap _
        exact ⟨rfl, (fun y hy => Nat.le_trans Z0 (N268 y hy)), KC272⟩
    · have pre273 : ∀ t, Steps p.tables e below (T186.setTop (mkF m 48 #[.val (.int p0), .val (.int p1), .val (.int p2), .val (.int p3), .val (.int p4), .val (.int (0 : Int32)), .val (.int (3 : Int32)), .val (.int c_183), .val (.int c_184), .val (.int c_185), .val (.int c_186), .unset, .unset, .unset, .unset, .unset] [])) t → Steps p.tables e below (s₁.setTop (entryFrame m #[(.int p0), (.int p1), (.int p2), (.int p3), (.int p4)] maxLocals)) t := fun t k => pre187 t (by rw [hv188]; exact k)
      obtain ⟨T274, h274, X274, e274, E274, A274, D274, -, st274⟩ := newO X186 hx hZ hown (hw _ (List.mem_of_getElem? (i := 38) rfl)) (hw _ (List.mem_of_getElem? (i := 6) rfl)) (hw _ (List.mem_of_getElem? (i := 5) rfl)) e186 (g := (mkF m 123 #[.val (.int p0), .val (.int p1), .val (.int p2), .val (.int p3), .val (.int p4), .val (.int (0 : Int32)), .val (.int (3 : Int32)), .val (.int c_183), .val (.int c_184), .val (.int c_185), .val (.int c_186), .unset, .unset, .unset, .unset, .unset] [])) rfl (hb hby at_123) (by decide) (by decide)
      obtain ⟨b274, g274⟩ : ∃ z, z = h0.size := ⟨_, rfl⟩
      rw [← g274] at A274 D274 st274
      have z275 := E274.1
      have KC276 : Keep h0 h274 [] := KC0.ext E274
      have z277 : @LT.lt Nat _ b274 (Array.size h274) := A274.lt
      have F274_value : Fld Z h274 b274 "java/lang/String" "value" "[B" .null := D274 (Or.inr (hw _ (List.mem_of_getElem? (i := 8) rfl))) (ty := (.array .byte)) (by decide)
      have F274_coder : Fld Z h274 b274 "java/lang/String" "coder" "B" (.int (0 : Int32)) := D274 (Or.inr (hw _ (List.mem_of_getElem? (i := 9) rfl))) (ty := .byte) (by decide)
      obtain ⟨T278, h278, k278, X278, e278, E278, A278, st278⟩ := newP X274 hx hZ (hw _ (List.mem_of_getElem? (i := 39) rfl)) e274 (g := (mkF m 128 #[.val (.int p0), .val (.int p1), .val (.int p2), .val (.int p3), .val (.int p4), .val (.int (0 : Int32)), .val (.int (3 : Int32)), .val (.int c_183), .val (.int c_184), .val (.int c_185), .val (.int c_186), .unset, .unset, .unset, .unset, .unset] [(.int (3 : Int32)), (.ref b274), (.ref b274)])) rfl (hb hby at_128) rfl (by decide) (cap := 3) (by decide) (by decide) (by decide) (by decide)
      obtain ⟨b278, g278⟩ : ∃ z, z = h274.size := ⟨_, rfl⟩
      rw [← g278] at A278 st278
      have z279 := E278.1
      have KC280 : Keep h0 h278 [] := KC276.ext E278
      have V278 : Arv Z h278 b278 k278 .char (3 : Int32) [(.int (0 : Int32)), (.int (0 : Int32)), (.int (0 : Int32))] (.int (0 : Int32)) := (Arv.new A278 (by decide)).pad (pad_rep [] (.int (0 : Int32)) 3)
      have z281 : @LT.lt Nat _ b278 (Array.size h278) := V278.lt
      obtain ⟨cl282, Ar282, q282, S282, N282', H282, G282⟩ := id V278
      have hin282 : ¬ ((0 : Int32) < 0 ∨ cl282.slots.size ≤ ((0 : Int32)).toNatClampNeg) := inb_of S282 ⟨by decide, by decide⟩
      obtain ⟨T283, h283, X283, e283, W283, st283⟩ := stC X278 hx hZ e278 Ar282 (j := (0 : Int32)) hin282 (g := (mkF m 134 #[.val (.int p0), .val (.int p1), .val (.int p2), .val (.int p3), .val (.int p4), .val (.int (0 : Int32)), .val (.int (3 : Int32)), .val (.int c_183), .val (.int c_184), .val (.int c_185), .val (.int c_186), .unset, .unset, .unset, .unset, .unset] [(.int c_183), (.int (0 : Int32)), (.ref b278), (.ref b278), (.ref b274), (.ref b274)])) rfl rfl (hb hby at_134)
      have z284 := W283.size
      have N283 := Fr.snoc X283 N186 (by omega : h0.size ≤ b278)
      have KC285 : Keep h0 h283 [] := KC280.wr W283 (Or.inr (by omega))
      have V283 : Arv Z h283 b278 k278 .char (3 : Int32) [(.int (nar .char c_183)), (.int (0 : Int32)), (.int (0 : Int32))] (.int (0 : Int32)) := Arv.set Ar282 q282 S282 N282' H282 G282 (fits_nar_char _) W283 0 rfl (Nat.le_of_ble_eq_true rfl)
      rw [P183_1] at V283
      obtain ⟨cl286, Ar286, q286, S286, N286', H286, G286⟩ := id V283
      have hin286 : ¬ ((1 : Int32) < 0 ∨ cl286.slots.size ≤ ((1 : Int32)).toNatClampNeg) := inb_of S286 ⟨by decide, by decide⟩
      obtain ⟨T287, h287, X287, e287, W287, st287⟩ := stC X283 hx hZ e283 Ar286 (j := (1 : Int32)) hin286 (g := (mkF m 139 #[.val (.int p0), .val (.int p1), .val (.int p2), .val (.int p3), .val (.int p4), .val (.int (0 : Int32)), .val (.int (3 : Int32)), .val (.int c_183), .val (.int c_184), .val (.int c_185), .val (.int c_186), .unset, .unset, .unset, .unset, .unset] [(.int c_184), (.int (1 : Int32)), (.ref b278), (.ref b278), (.ref b274), (.ref b274)])) rfl rfl (hb hby at_139)
      have z288 := W287.size
      have N287 := Fr.snoc X287 N283 (by omega : h0.size ≤ b278)
      have KC289 : Keep h0 h287 [] := KC285.wr W287 (Or.inr (by omega))
      have V287 : Arv Z h287 b278 k278 .char (3 : Int32) [(.int c_183), (.int (nar .char c_184)), (.int (0 : Int32))] (.int (0 : Int32)) := Arv.set Ar286 q286 S286 N286' H286 G286 (fits_nar_char _) W287 1 rfl (Nat.le_of_ble_eq_true rfl)
      rw [P184_1] at V287
      obtain ⟨cl290, Ar290, q290, S290, N290', H290, G290⟩ := id V287
      have hin290 : ¬ ((2 : Int32) < 0 ∨ cl290.slots.size ≤ ((2 : Int32)).toNatClampNeg) := inb_of S290 ⟨by decide, by decide⟩
      obtain ⟨T291, h291, X291, e291, W291, st291⟩ := stC X287 hx hZ e287 Ar290 (j := (2 : Int32)) hin290 (g := (mkF m 144 #[.val (.int p0), .val (.int p1), .val (.int p2), .val (.int p3), .val (.int p4), .val (.int (0 : Int32)), .val (.int (3 : Int32)), .val (.int c_183), .val (.int c_184), .val (.int c_185), .val (.int c_186), .unset, .unset, .unset, .unset, .unset] [(.int c_185), (.int (2 : Int32)), (.ref b278), (.ref b278), (.ref b274), (.ref b274)])) rfl rfl (hb hby at_144)
      have z292 := W291.size
      have N291 := Fr.snoc X291 N287 (by omega : h0.size ≤ b278)
      have KC293 : Keep h0 h291 [] := KC289.wr W291 (Or.inr (by omega))
      have V291 : Arv Z h291 b278 k278 .char (3 : Int32) [(.int c_183), (.int c_184), (.int (nar .char c_185))] (.int (0 : Int32)) := Arv.set Ar290 q290 S290 N290' H290 G290 (fits_nar_char _) W291 2 rfl (Nat.le_of_ble_eq_true rfl)
      rw [P185_1] at V291
      have Fc295 := ((((A274.ext E278).wr W283).wr W287).wr W291)
      have Fc296 := ((((F274_value.ext E278).other W283 (Or.inl (by omega : @Ne Nat b274 b278))).other W287 (Or.inl (by omega : @Ne Nat b274 b278))).other W291 (Or.inl (by omega : @Ne Nat b274 b278)))
      have Fc297 := ((((F274_coder.ext E278).other W283 (Or.inl (by omega : @Ne Nat b274 b278))).other W287 (Or.inl (by omega : @Ne Nat b274 b278))).other W291 (Or.inl (by omega : @Ne Nat b274 b278)))
      have Fc298 := (((((H4.ext E274).ext E278).wr W283).wr W287).wr W291)
      have hp294 : ∀ c ∈ ([c_183, c_184, c_185] : List Int32), ¬ c < 0 ∧ ¬ (255 : Int32) < c := by
        intro c hc
        simp only [List.mem_cons, List.not_mem_nil, or_false] at hc
        rcases hc with rfl | rfl | rfl
        · exact P183_0
        · exact P184_0
        · exact P185_0
      obtain ⟨_, _, ⟨T294, L294, k294, n294⟩, -, X294, ⟨Lc294, hQ294, l294, y294, z294⟩, st294⟩ := X291.specialBack hx (y := (⟨"java/lang/String", "<init>", "([C)V"⟩ : MethodName)) rfl hown (mvT hZ (hw _ (List.mem_of_getElem? (i := 40) rfl))) (mvT hZ (hw _ (List.mem_of_getElem? (i := 41) rfl))) (mvT hZ (hw _ (List.mem_of_getElem? (i := 42) rfl))) (by decide) (StrChars.Road.backV (W := 1) hZ (fun d hd => hw d (own_words d hd)) (kI := 4) (hw _ (List.mem_of_getElem? (i := 6) rfl)) (cs := ([c_183, c_184, c_185] : List Int32)) (bs := (([c_183, c_184, c_185] : List Int32)).map (fun c => c.toInt8.toInt32)) (n := 3) (by omega : h0.size ≤ b274) (by omega : h0.size ≤ h291.size) Fc295 Fc296 Fc297 V291 Fc298 hG1 rfl rfl (by decide) (by decide) hp294 rfl (by decide) (by decide)) (g := (mkF m 145 #[.val (.int p0), .val (.int p1), .val (.int p2), .val (.int p3), .val (.int p4), .val (.int (0 : Int32)), .val (.int (3 : Int32)), .val (.int c_183), .val (.int c_184), .val (.int c_185), .val (.int c_186), .unset, .unset, .unset, .unset, .unset] [(.ref b278), (.ref b274), (.ref b274)])) rfl (by rw [hml]; rfl) (Steps.refl _) (a := b274) (argsL := [(.ref b278)]) (rest := [(.ref b274)]) (lenOf pd_3 rfl) rfl (by show 2 * 0 + _ ≤ _; exact Nat.le_of_eq rfl) (hb hby at_145) (fun _ _ => ⟨rfl, e291, (by decide : 2 + 1 ≤ _), (by decide : 7 + 3 ≤ _)⟩)
      dsimp only [Pt.U, Pt.locs, Pt.cells, Pt.slots] at X294 l294 y294 z294 st294 hQ294
      subst l294 y294 z294
      obtain ⟨rfl, N294q, K294, P294E, P294C, bv294, kb294, u294a, u294b, u294c, P294V, P294A⟩ := hQ294
      have N294 := Fr.app N291 N294q
      have z299 := K294.1
      have KC300 : Keep h0 T294.heap [] := KC293.trans K294 (allS (Or.inr (by omega)) all0)
      have P294B : Arv Z T294.heap bv294 kb294 .byte (3 : Int32) [(.int (c_183).toInt8.toInt32), (.int (c_184).toInt8.toInt32), (.int (c_185).toInt8.toInt32)] (.int (0 : Int32)) := P294A
      have z301 : @LT.lt Nat _ b274 (Array.size T294.heap) := P294E.lt
      have z302 : @LT.lt Nat _ bv294 (Array.size T294.heap) := P294A.lt
      have Fc303 := (own_staK (((((H1.ext E274).ext E278).wr W283).wr W287).wr W291) K294 (allS ⟨_, Fc295⟩ all0))
      obtain ⟨T304, X304, e304, st304⟩ := getS2 X294 hx hZ hown (host := "") (Or.inl (hw _ (List.mem_of_getElem? (i := 12) rfl))) Via.refl rfl Fc303 (g := (mkF m 196 #[.val (.int p0), .val (.int p1), .val (.int p2), .val (.int p3), .val (.int p4), .val (.int (0 : Int32)), .val (.int (3 : Int32)), .val (.int c_183), .val (.int c_184), .val (.int c_185), .val (.int c_186), .val (.ref b274), .unset, .unset, .unset, .unset] [])) rfl (hb hby at_196)
      have pre305 : ∀ t, Steps p.tables e below (T304.setTop (mkF m 211 #[.val (.int p0), .val (.int p1), .val (.int p2), .val (.int p3), .val (.int p4), .val (.int (0 : Int32)), .val (.int (3 : Int32)), .val (.int c_183), .val (.int c_184), .val (.int c_185), .val (.int c_186), .val (.ref b274), .val (.ref wR), .unset, .unset, .unset] [(.int (71 : Int32)), (.int c_183)])) t → Steps p.tables e below (s₁.setTop (entryFrame m #[(.int p0), (.int p1), (.int p2), (.int p3), (.int p4)] maxLocals)) t := fun t k => by
        refine pre273 _ ?_
        show Steps p.tables e below (T186.setTop (mkF m 48 #[.val (.int p0), .val (.int p1), .val (.int p2), .val (.int p3), .val (.int p4), .val (.int (0 : Int32)), .val (.int (3 : Int32)), .val (.int c_183), .val (.int c_184), .val (.int c_185), .val (.int c_186), .unset, .unset, .unset, .unset, .unset] [])) _
        refine XS.iload X186.here hx rfl (hb hby at_48) rfl ?_
        show Steps p.tables e below (T186.setTop (mkF m 50 #[.val (.int p0), .val (.int p1), .val (.int p2), .val (.int p3), .val (.int p4), .val (.int (0 : Int32)), .val (.int (3 : Int32)), .val (.int c_183), .val (.int c_184), .val (.int c_185), .val (.int c_186), .unset, .unset, .unset, .unset, .unset] [(.int (3 : Int32))])) _
        refine XS.ifYes X186.here hx rfl (pc0 := 50) (pc' := 60) rfl (hb hby at_50) rfl ((if0 _ _).trans (feq (by decide : ¬ ((3 : Int32) = (0 : Int32)))).2) (by decide) (by decide) ?_
        show Steps p.tables e below (T186.setTop (mkF m 60 #[.val (.int p0), .val (.int p1), .val (.int p2), .val (.int p3), .val (.int p4), .val (.int (0 : Int32)), .val (.int (3 : Int32)), .val (.int c_183), .val (.int c_184), .val (.int c_185), .val (.int c_186), .unset, .unset, .unset, .unset, .unset] [])) _
        refine XS.iload X186.here hx rfl (hb hby at_60) rfl ?_
        show Steps p.tables e below (T186.setTop (mkF m 62 #[.val (.int p0), .val (.int p1), .val (.int p2), .val (.int p3), .val (.int p4), .val (.int (0 : Int32)), .val (.int (3 : Int32)), .val (.int c_183), .val (.int c_184), .val (.int c_185), .val (.int c_186), .unset, .unset, .unset, .unset, .unset] [(.int (3 : Int32))])) _
        refine XS.iconst X186.here hx rfl (hb hby at_62) ?_
        show Steps p.tables e below (T186.setTop (mkF m 63 #[.val (.int p0), .val (.int p1), .val (.int p2), .val (.int p3), .val (.int p4), .val (.int (0 : Int32)), .val (.int (3 : Int32)), .val (.int c_183), .val (.int c_184), .val (.int c_185), .val (.int c_186), .unset, .unset, .unset, .unset, .unset] [(.int (1 : Int32)), (.int (3 : Int32))])) _
        refine XS.icmpYes X186.here hx rfl (pc0 := 63) (pc' := 86) rfl (hb hby at_63) rfl (feq (by decide : ¬ ((3 : Int32) = (1 : Int32)))).2 (by decide) (by decide) ?_
        show Steps p.tables e below (T186.setTop (mkF m 86 #[.val (.int p0), .val (.int p1), .val (.int p2), .val (.int p3), .val (.int p4), .val (.int (0 : Int32)), .val (.int (3 : Int32)), .val (.int c_183), .val (.int c_184), .val (.int c_185), .val (.int c_186), .unset, .unset, .unset, .unset, .unset] [])) _
        refine XS.iload X186.here hx rfl (hb hby at_86) rfl ?_
        show Steps p.tables e below (T186.setTop (mkF m 88 #[.val (.int p0), .val (.int p1), .val (.int p2), .val (.int p3), .val (.int p4), .val (.int (0 : Int32)), .val (.int (3 : Int32)), .val (.int c_183), .val (.int c_184), .val (.int c_185), .val (.int c_186), .unset, .unset, .unset, .unset, .unset] [(.int (3 : Int32))])) _
        refine XS.iconst X186.here hx rfl (hb hby at_88) ?_
        show Steps p.tables e below (T186.setTop (mkF m 89 #[.val (.int p0), .val (.int p1), .val (.int p2), .val (.int p3), .val (.int p4), .val (.int (0 : Int32)), .val (.int (3 : Int32)), .val (.int c_183), .val (.int c_184), .val (.int c_185), .val (.int c_186), .unset, .unset, .unset, .unset, .unset] [(.int (2 : Int32)), (.int (3 : Int32))])) _
        refine XS.icmpYes X186.here hx rfl (pc0 := 89) (pc' := 117) rfl (hb hby at_89) rfl (feq (by decide : ¬ ((3 : Int32) = (2 : Int32)))).2 (by decide) (by decide) ?_
        show Steps p.tables e below (T186.setTop (mkF m 117 #[.val (.int p0), .val (.int p1), .val (.int p2), .val (.int p3), .val (.int p4), .val (.int (0 : Int32)), .val (.int (3 : Int32)), .val (.int c_183), .val (.int c_184), .val (.int c_185), .val (.int c_186), .unset, .unset, .unset, .unset, .unset] [])) _
        refine XS.iload X186.here hx rfl (hb hby at_117) rfl ?_
        show Steps p.tables e below (T186.setTop (mkF m 119 #[.val (.int p0), .val (.int p1), .val (.int p2), .val (.int p3), .val (.int p4), .val (.int (0 : Int32)), .val (.int (3 : Int32)), .val (.int c_183), .val (.int c_184), .val (.int c_185), .val (.int c_186), .unset, .unset, .unset, .unset, .unset] [(.int (3 : Int32))])) _
        refine XS.iconst X186.here hx rfl (hb hby at_119) ?_
        show Steps p.tables e below (T186.setTop (mkF m 120 #[.val (.int p0), .val (.int p1), .val (.int p2), .val (.int p3), .val (.int p4), .val (.int (0 : Int32)), .val (.int (3 : Int32)), .val (.int c_183), .val (.int c_184), .val (.int c_185), .val (.int c_186), .unset, .unset, .unset, .unset, .unset] [(.int (3 : Int32)), (.int (3 : Int32))])) _
        refine XS.icmpNo X186.here hx rfl (hb hby at_120) rfl (teq (by decide : (3 : Int32) = (3 : Int32))).2 ?_
        show Steps p.tables e below (T186.setTop (mkF m 123 #[.val (.int p0), .val (.int p1), .val (.int p2), .val (.int p3), .val (.int p4), .val (.int (0 : Int32)), .val (.int (3 : Int32)), .val (.int c_183), .val (.int c_184), .val (.int c_185), .val (.int c_186), .unset, .unset, .unset, .unset, .unset] [])) _
        refine st274 _ ?_
        show Steps p.tables e below (T274.setTop (mkF m 126 #[.val (.int p0), .val (.int p1), .val (.int p2), .val (.int p3), .val (.int p4), .val (.int (0 : Int32)), .val (.int (3 : Int32)), .val (.int c_183), .val (.int c_184), .val (.int c_185), .val (.int c_186), .unset, .unset, .unset, .unset, .unset] [(.ref b274)])) _
        refine XS.dup X274.here hx rfl (hb hby at_126) rfl rfl ?_
        show Steps p.tables e below (T274.setTop (mkF m 127 #[.val (.int p0), .val (.int p1), .val (.int p2), .val (.int p3), .val (.int p4), .val (.int (0 : Int32)), .val (.int (3 : Int32)), .val (.int c_183), .val (.int c_184), .val (.int c_185), .val (.int c_186), .unset, .unset, .unset, .unset, .unset] [(.ref b274), (.ref b274)])) _
        refine XS.iconst X274.here hx rfl (hb hby at_127) ?_
        show Steps p.tables e below (T274.setTop (mkF m 128 #[.val (.int p0), .val (.int p1), .val (.int p2), .val (.int p3), .val (.int p4), .val (.int (0 : Int32)), .val (.int (3 : Int32)), .val (.int c_183), .val (.int c_184), .val (.int c_185), .val (.int c_186), .unset, .unset, .unset, .unset, .unset] [(.int (3 : Int32)), (.ref b274), (.ref b274)])) _
        refine st278 _ ?_
        show Steps p.tables e below (T278.setTop (mkF m 130 #[.val (.int p0), .val (.int p1), .val (.int p2), .val (.int p3), .val (.int p4), .val (.int (0 : Int32)), .val (.int (3 : Int32)), .val (.int c_183), .val (.int c_184), .val (.int c_185), .val (.int c_186), .unset, .unset, .unset, .unset, .unset] [(.ref b278), (.ref b274), (.ref b274)])) _
        refine XS.dup X278.here hx rfl (hb hby at_130) rfl rfl ?_
        show Steps p.tables e below (T278.setTop (mkF m 131 #[.val (.int p0), .val (.int p1), .val (.int p2), .val (.int p3), .val (.int p4), .val (.int (0 : Int32)), .val (.int (3 : Int32)), .val (.int c_183), .val (.int c_184), .val (.int c_185), .val (.int c_186), .unset, .unset, .unset, .unset, .unset] [(.ref b278), (.ref b278), (.ref b274), (.ref b274)])) _
        refine XS.iconst X278.here hx rfl (hb hby at_131) ?_
        show Steps p.tables e below (T278.setTop (mkF m 132 #[.val (.int p0), .val (.int p1), .val (.int p2), .val (.int p3), .val (.int p4), .val (.int (0 : Int32)), .val (.int (3 : Int32)), .val (.int c_183), .val (.int c_184), .val (.int c_185), .val (.int c_186), .unset, .unset, .unset, .unset, .unset] [(.int (0 : Int32)), (.ref b278), (.ref b278), (.ref b274), (.ref b274)])) _
        refine XS.iload X278.here hx rfl (hb hby at_132) rfl ?_
        show Steps p.tables e below (T278.setTop (mkF m 134 #[.val (.int p0), .val (.int p1), .val (.int p2), .val (.int p3), .val (.int p4), .val (.int (0 : Int32)), .val (.int (3 : Int32)), .val (.int c_183), .val (.int c_184), .val (.int c_185), .val (.int c_186), .unset, .unset, .unset, .unset, .unset] [(.int c_183), (.int (0 : Int32)), (.ref b278), (.ref b278), (.ref b274), (.ref b274)])) _
        refine st283 _ ?_
        show Steps p.tables e below (T283.setTop (mkF m 135 #[.val (.int p0), .val (.int p1), .val (.int p2), .val (.int p3), .val (.int p4), .val (.int (0 : Int32)), .val (.int (3 : Int32)), .val (.int c_183), .val (.int c_184), .val (.int c_185), .val (.int c_186), .unset, .unset, .unset, .unset, .unset] [(.ref b278), (.ref b274), (.ref b274)])) _
        refine XS.dup X283.here hx rfl (hb hby at_135) rfl rfl ?_
        show Steps p.tables e below (T283.setTop (mkF m 136 #[.val (.int p0), .val (.int p1), .val (.int p2), .val (.int p3), .val (.int p4), .val (.int (0 : Int32)), .val (.int (3 : Int32)), .val (.int c_183), .val (.int c_184), .val (.int c_185), .val (.int c_186), .unset, .unset, .unset, .unset, .unset] [(.ref b278), (.ref b278), (.ref b274), (.ref b274)])) _
        refine XS.iconst X283.here hx rfl (hb hby at_136) ?_
        show Steps p.tables e below (T283.setTop (mkF m 137 #[.val (.int p0), .val (.int p1), .val (.int p2), .val (.int p3), .val (.int p4), .val (.int (0 : Int32)), .val (.int (3 : Int32)), .val (.int c_183), .val (.int c_184), .val (.int c_185), .val (.int c_186), .unset, .unset, .unset, .unset, .unset] [(.int (1 : Int32)), (.ref b278), (.ref b278), (.ref b274), (.ref b274)])) _
        refine XS.iload X283.here hx rfl (hb hby at_137) rfl ?_
        show Steps p.tables e below (T283.setTop (mkF m 139 #[.val (.int p0), .val (.int p1), .val (.int p2), .val (.int p3), .val (.int p4), .val (.int (0 : Int32)), .val (.int (3 : Int32)), .val (.int c_183), .val (.int c_184), .val (.int c_185), .val (.int c_186), .unset, .unset, .unset, .unset, .unset] [(.int c_184), (.int (1 : Int32)), (.ref b278), (.ref b278), (.ref b274), (.ref b274)])) _
        refine st287 _ ?_
        show Steps p.tables e below (T287.setTop (mkF m 140 #[.val (.int p0), .val (.int p1), .val (.int p2), .val (.int p3), .val (.int p4), .val (.int (0 : Int32)), .val (.int (3 : Int32)), .val (.int c_183), .val (.int c_184), .val (.int c_185), .val (.int c_186), .unset, .unset, .unset, .unset, .unset] [(.ref b278), (.ref b274), (.ref b274)])) _
        refine XS.dup X287.here hx rfl (hb hby at_140) rfl rfl ?_
        show Steps p.tables e below (T287.setTop (mkF m 141 #[.val (.int p0), .val (.int p1), .val (.int p2), .val (.int p3), .val (.int p4), .val (.int (0 : Int32)), .val (.int (3 : Int32)), .val (.int c_183), .val (.int c_184), .val (.int c_185), .val (.int c_186), .unset, .unset, .unset, .unset, .unset] [(.ref b278), (.ref b278), (.ref b274), (.ref b274)])) _
        refine XS.iconst X287.here hx rfl (hb hby at_141) ?_
        show Steps p.tables e below (T287.setTop (mkF m 142 #[.val (.int p0), .val (.int p1), .val (.int p2), .val (.int p3), .val (.int p4), .val (.int (0 : Int32)), .val (.int (3 : Int32)), .val (.int c_183), .val (.int c_184), .val (.int c_185), .val (.int c_186), .unset, .unset, .unset, .unset, .unset] [(.int (2 : Int32)), (.ref b278), (.ref b278), (.ref b274), (.ref b274)])) _
        refine XS.iload X287.here hx rfl (hb hby at_142) rfl ?_
        show Steps p.tables e below (T287.setTop (mkF m 144 #[.val (.int p0), .val (.int p1), .val (.int p2), .val (.int p3), .val (.int p4), .val (.int (0 : Int32)), .val (.int (3 : Int32)), .val (.int c_183), .val (.int c_184), .val (.int c_185), .val (.int c_186), .unset, .unset, .unset, .unset, .unset] [(.int c_185), (.int (2 : Int32)), (.ref b278), (.ref b278), (.ref b274), (.ref b274)])) _
        refine st291 _ ?_
        show Steps p.tables e below (T291.setTop (mkF m 145 #[.val (.int p0), .val (.int p1), .val (.int p2), .val (.int p3), .val (.int p4), .val (.int (0 : Int32)), .val (.int (3 : Int32)), .val (.int c_183), .val (.int c_184), .val (.int c_185), .val (.int c_186), .unset, .unset, .unset, .unset, .unset] [(.ref b278), (.ref b274), (.ref b274)])) _
        refine st294.trans ?_
        show Steps p.tables e below (T294.setTop (mkF m 148 #[.val (.int p0), .val (.int p1), .val (.int p2), .val (.int p3), .val (.int p4), .val (.int (0 : Int32)), .val (.int (3 : Int32)), .val (.int c_183), .val (.int c_184), .val (.int c_185), .val (.int c_186), .unset, .unset, .unset, .unset, .unset] [(.ref b274)])) _
        refine XS.astore X294.here hx rfl (hb hby at_148) rfl rfl (l' := #[.val (.int p0), .val (.int p1), .val (.int p2), .val (.int p3), .val (.int p4), .val (.int (0 : Int32)), .val (.int (3 : Int32)), .val (.int c_183), .val (.int c_184), .val (.int c_185), .val (.int c_186), .val (.ref b274), .unset, .unset, .unset, .unset]) rfl ?_
        show Steps p.tables e below (T294.setTop (mkF m 150 #[.val (.int p0), .val (.int p1), .val (.int p2), .val (.int p3), .val (.int p4), .val (.int (0 : Int32)), .val (.int (3 : Int32)), .val (.int c_183), .val (.int c_184), .val (.int c_185), .val (.int c_186), .val (.ref b274), .unset, .unset, .unset, .unset] [])) _
        refine XS.goto X294.here hx rfl (pc0 := 150) (pc' := 185) rfl (hb hby at_150) (by decide) (by decide) ?_
        show Steps p.tables e below (T294.setTop (mkF m 185 #[.val (.int p0), .val (.int p1), .val (.int p2), .val (.int p3), .val (.int p4), .val (.int (0 : Int32)), .val (.int (3 : Int32)), .val (.int c_183), .val (.int c_184), .val (.int c_185), .val (.int c_186), .val (.ref b274), .unset, .unset, .unset, .unset] [])) _
        refine XS.iload X294.here hx rfl (hb hby at_185) rfl ?_
        show Steps p.tables e below (T294.setTop (mkF m 187 #[.val (.int p0), .val (.int p1), .val (.int p2), .val (.int p3), .val (.int p4), .val (.int (0 : Int32)), .val (.int (3 : Int32)), .val (.int c_183), .val (.int c_184), .val (.int c_185), .val (.int c_186), .val (.ref b274), .unset, .unset, .unset, .unset] [(.int (0 : Int32))])) _
        refine XS.ifYes X294.here hx rfl (pc0 := 187) (pc' := 196) rfl (hb hby at_187) rfl ((if0 _ _).trans (teq (by decide : (0 : Int32) = (0 : Int32))).1) (by decide) (by decide) ?_
        show Steps p.tables e below (T294.setTop (mkF m 196 #[.val (.int p0), .val (.int p1), .val (.int p2), .val (.int p3), .val (.int p4), .val (.int (0 : Int32)), .val (.int (3 : Int32)), .val (.int c_183), .val (.int c_184), .val (.int c_185), .val (.int c_186), .val (.ref b274), .unset, .unset, .unset, .unset] [])) _
        refine st304 _ ?_
        show Steps p.tables e below (T304.setTop (mkF m 199 #[.val (.int p0), .val (.int p1), .val (.int p2), .val (.int p3), .val (.int p4), .val (.int (0 : Int32)), .val (.int (3 : Int32)), .val (.int c_183), .val (.int c_184), .val (.int c_185), .val (.int c_186), .val (.ref b274), .unset, .unset, .unset, .unset] [(.ref wR)])) _
        refine XS.astore X304.here hx rfl (hb hby at_199) rfl rfl (l' := #[.val (.int p0), .val (.int p1), .val (.int p2), .val (.int p3), .val (.int p4), .val (.int (0 : Int32)), .val (.int (3 : Int32)), .val (.int c_183), .val (.int c_184), .val (.int c_185), .val (.int c_186), .val (.ref b274), .val (.ref wR), .unset, .unset, .unset]) rfl ?_
        show Steps p.tables e below (T304.setTop (mkF m 201 #[.val (.int p0), .val (.int p1), .val (.int p2), .val (.int p3), .val (.int p4), .val (.int (0 : Int32)), .val (.int (3 : Int32)), .val (.int c_183), .val (.int c_184), .val (.int c_185), .val (.int c_186), .val (.ref b274), .val (.ref wR), .unset, .unset, .unset] [])) _
        refine XS.iload X304.here hx rfl (hb hby at_201) rfl ?_
        show Steps p.tables e below (T304.setTop (mkF m 203 #[.val (.int p0), .val (.int p1), .val (.int p2), .val (.int p3), .val (.int p4), .val (.int (0 : Int32)), .val (.int (3 : Int32)), .val (.int c_183), .val (.int c_184), .val (.int c_185), .val (.int c_186), .val (.ref b274), .val (.ref wR), .unset, .unset, .unset] [(.int (3 : Int32))])) _
        refine XS.iconst X304.here hx rfl (hb hby at_203) ?_
        show Steps p.tables e below (T304.setTop (mkF m 204 #[.val (.int p0), .val (.int p1), .val (.int p2), .val (.int p3), .val (.int p4), .val (.int (0 : Int32)), .val (.int (3 : Int32)), .val (.int c_183), .val (.int c_184), .val (.int c_185), .val (.int c_186), .val (.ref b274), .val (.ref wR), .unset, .unset, .unset] [(.int (3 : Int32)), (.int (3 : Int32))])) _
        refine XS.icmpNo X304.here hx rfl (hb hby at_204) rfl (teq (by decide : (3 : Int32) = (3 : Int32))).2 ?_
        show Steps p.tables e below (T304.setTop (mkF m 207 #[.val (.int p0), .val (.int p1), .val (.int p2), .val (.int p3), .val (.int p4), .val (.int (0 : Int32)), .val (.int (3 : Int32)), .val (.int c_183), .val (.int c_184), .val (.int c_185), .val (.int c_186), .val (.ref b274), .val (.ref wR), .unset, .unset, .unset] [])) _
        refine XS.iload X304.here hx rfl (hb hby at_207) rfl ?_
        show Steps p.tables e below (T304.setTop (mkF m 209 #[.val (.int p0), .val (.int p1), .val (.int p2), .val (.int p3), .val (.int p4), .val (.int (0 : Int32)), .val (.int (3 : Int32)), .val (.int c_183), .val (.int c_184), .val (.int c_185), .val (.int c_186), .val (.ref b274), .val (.ref wR), .unset, .unset, .unset] [(.int c_183)])) _
        refine XS.bipush X304.here hx rfl (hb hby at_209) ?_
        exact k
      by_cases hc306 : c_183 = (71 : Int32)
      · have pre307 : ∀ t, Steps p.tables e below (T304.setTop (mkF m 218 #[.val (.int p0), .val (.int p1), .val (.int p2), .val (.int p3), .val (.int p4), .val (.int (0 : Int32)), .val (.int (3 : Int32)), .val (.int c_183), .val (.int c_184), .val (.int c_185), .val (.int c_186), .val (.ref b274), .val (.ref wR), .unset, .unset, .unset] [(.int (69 : Int32)), (.int c_184)])) t → Steps p.tables e below (s₁.setTop (entryFrame m #[(.int p0), (.int p1), (.int p2), (.int p3), (.int p4)] maxLocals)) t := fun t k => by
          refine pre305 _ ?_
          show Steps p.tables e below (T304.setTop (mkF m 211 #[.val (.int p0), .val (.int p1), .val (.int p2), .val (.int p3), .val (.int p4), .val (.int (0 : Int32)), .val (.int (3 : Int32)), .val (.int c_183), .val (.int c_184), .val (.int c_185), .val (.int c_186), .val (.ref b274), .val (.ref wR), .unset, .unset, .unset] [(.int (71 : Int32)), (.int c_183)])) _
          refine XS.icmpNo X304.here hx rfl (hb hby at_211) rfl (teq (hc306 : c_183 = (71 : Int32))).2 ?_
          show Steps p.tables e below (T304.setTop (mkF m 214 #[.val (.int p0), .val (.int p1), .val (.int p2), .val (.int p3), .val (.int p4), .val (.int (0 : Int32)), .val (.int (3 : Int32)), .val (.int c_183), .val (.int c_184), .val (.int c_185), .val (.int c_186), .val (.ref b274), .val (.ref wR), .unset, .unset, .unset] [])) _
          refine XS.iload X304.here hx rfl (hb hby at_214) rfl ?_
          show Steps p.tables e below (T304.setTop (mkF m 216 #[.val (.int p0), .val (.int p1), .val (.int p2), .val (.int p3), .val (.int p4), .val (.int (0 : Int32)), .val (.int (3 : Int32)), .val (.int c_183), .val (.int c_184), .val (.int c_185), .val (.int c_186), .val (.ref b274), .val (.ref wR), .unset, .unset, .unset] [(.int c_184)])) _
          refine XS.bipush X304.here hx rfl (hb hby at_216) ?_
          exact k
        by_cases hc308 : c_184 = (69 : Int32)
        · have pre309 : ∀ t, Steps p.tables e below (T304.setTop (mkF m 225 #[.val (.int p0), .val (.int p1), .val (.int p2), .val (.int p3), .val (.int p4), .val (.int (0 : Int32)), .val (.int (3 : Int32)), .val (.int c_183), .val (.int c_184), .val (.int c_185), .val (.int c_186), .val (.ref b274), .val (.ref wR), .unset, .unset, .unset] [(.int (84 : Int32)), (.int c_185)])) t → Steps p.tables e below (s₁.setTop (entryFrame m #[(.int p0), (.int p1), (.int p2), (.int p3), (.int p4)] maxLocals)) t := fun t k => by
            refine pre307 _ ?_
            show Steps p.tables e below (T304.setTop (mkF m 218 #[.val (.int p0), .val (.int p1), .val (.int p2), .val (.int p3), .val (.int p4), .val (.int (0 : Int32)), .val (.int (3 : Int32)), .val (.int c_183), .val (.int c_184), .val (.int c_185), .val (.int c_186), .val (.ref b274), .val (.ref wR), .unset, .unset, .unset] [(.int (69 : Int32)), (.int c_184)])) _
            refine XS.icmpNo X304.here hx rfl (hb hby at_218) rfl (teq (hc308 : c_184 = (69 : Int32))).2 ?_
            show Steps p.tables e below (T304.setTop (mkF m 221 #[.val (.int p0), .val (.int p1), .val (.int p2), .val (.int p3), .val (.int p4), .val (.int (0 : Int32)), .val (.int (3 : Int32)), .val (.int c_183), .val (.int c_184), .val (.int c_185), .val (.int c_186), .val (.ref b274), .val (.ref wR), .unset, .unset, .unset] [])) _
            refine XS.iload X304.here hx rfl (hb hby at_221) rfl ?_
            show Steps p.tables e below (T304.setTop (mkF m 223 #[.val (.int p0), .val (.int p1), .val (.int p2), .val (.int p3), .val (.int p4), .val (.int (0 : Int32)), .val (.int (3 : Int32)), .val (.int c_183), .val (.int c_184), .val (.int c_185), .val (.int c_186), .val (.ref b274), .val (.ref wR), .unset, .unset, .unset] [(.int c_185)])) _
            refine XS.bipush X304.here hx rfl (hb hby at_223) ?_
            exact k
          by_cases hc310 : c_185 = (84 : Int32)
          · have Xo311 : Ext Z.heap T294.heap := own_extT X00 (own_ext KC300)
            have Fc312 := (own_staK (((((H0.ext E274).ext E278).wr W283).wr W287).wr W291) K294 (allS ⟨_, Fc295⟩ all0))
            have Fc313 := (own_staK Fc298 K294 (allS ⟨_, Fc295⟩ all0))
            have z315 := congrArg Array.size e304
            have Fc316 := ((((((H3.ext E274).ext E278).wr W283).wr W287).wr W291).keep K294)
            obtain ⟨cq314, kq314, qa314, qb314, qc314⟩ := isOf hZ e304 Fc316
            obtain ⟨_, _, ⟨T314, L314, k314, n314⟩, -, Y314, hY314, gY314, ⟨Lc314, hQ314, l314, y314, z314⟩, st314⟩ := X304.virtualBackS hx (y := (⟨"com/example/task_relay/taskrelay/Scope", "allows", "(Ljava/lang/String;)Z"⟩ : MethodName)) (z := (⟨"com/example/task_relay/taskrelay/Scope", "allows", "(Ljava/lang/String;)Z"⟩ : MethodName)) hown (mvT hZ (hw _ (List.mem_of_getElem? (i := 15) rfl))) (mvT hZ (hw _ (List.mem_of_getElem? (i := 16) rfl))) (notFace_of_selects (args := #[]) (mvT hZ (hw _ (List.mem_of_getElem? (i := 18) rfl)))) (mvT hZ (hw _ (List.mem_of_getElem? (i := 18) rfl))) (mvT hZ (hw _ (List.mem_of_getElem? (i := 17) rfl))) (by decide) (backOfI (W := 0) (rmar3 l Z a0 hw [] wR b274 wF G1 bv294 kb294 c_183 c_184 c_185 T294.heap h0.size (by omega) Fc312 Fc313 (hG1 : ¬ (G1 = (0 : Int32))) (hh58 : Jvm.Lit.constHeld Z "com/example/task_relay/taskrelay/Scope" 58) (hh60 : Jvm.Lit.constHeld Z "com/example/task_relay/taskrelay/Scope" 60) (Xo311 : Ext Z.heap T294.heap) (hcw : Jvm.Lit.compactW.before a0 Z = true) (hne : ¬ (wR = wF)) P294E P294C P294V P294B (P183_0 : ¬ (c_183 < 0) ∧ ¬ ((255 : Int32) < c_183)) (P184_0 : ¬ (c_184 < 0) ∧ ¬ ((255 : Int32) < c_184)) (P185_0 : ¬ (c_185 < 0) ∧ ¬ ((255 : Int32) < c_185))) hZ (hw _ (List.mem_of_getElem? (i := 19) rfl)) (hw _ (List.mem_of_getElem? (i := 13) rfl)) (by decide) (by decide)) qa314 qc314 (g := (mkF m 302 #[.val (.int p0), .val (.int p1), .val (.int p2), .val (.int p3), .val (.int p4), .val (.int (0 : Int32)), .val (.int (3 : Int32)), .val (.int c_183), .val (.int c_184), .val (.int c_185), .val (.int c_186), .val (.ref b274), .val (.ref wR), .val (.int (1 : Int32)), .val (.int (0 : Int32)), .val (.int (1 : Int32))] [(.ref b274), (.ref wR)])) rfl (by rw [hml]; rfl) (Steps.refl _) (argsL := [(.ref b274)]) (rest := []) (lenOf pd_2 rfl) rfl (by show 2 * 0 + _ ≤ _; exact Nat.le_of_eq rfl) (hb hby at_302) (fun _ Hw => ⟨rfl, e304, (by decide : 3 + 4 ≤ _), (by decide : 10 + 36 ≤ _), own_IBw hI Hw⟩)
            dsimp only [Pt.U, Pt.locs, Pt.cells, Pt.slots] at Y314 hY314 gY314 l314 y314 z314 st314 hQ314
            subst l314 y314 z314
            obtain ⟨X314, hS314, hZ314, hw314⟩ := rebS (s := s) (vm0 := s.vm) hS0 (by omega : h0.size ≤ T304.heap.size) Y314 hY314 gY314 hZ hown
            obtain ⟨rfl, N314q, K314⟩ := hQ314
            have N314 := Fr.app N294 N314q
            have z317 := K314.1
            have KC318 : Keep h0 T314.heap [] := KC300.trans K314 all0
            obtain ⟨fs, hr, hrun, hended, rE1, rE2, rE3, rE4⟩ := leaveW (s := s) (vm₁ := T314.vm) X314 hS314 (by omega : T314.heap.size ≤ T314.heap.size) (v := some (.int (1 : Int32))) (fun h => by rw [Bd.returns] at h; cases h)
            refine ⟨_, _, pre309 _ ?_, hrun, hended, _, _, rfl, ?_, rE1, rE2, rE3, rE4.mono (by decide) (by decide)⟩
            · show Steps p.tables e below (T304.setTop (mkF m 225 #[.val (.int p0), .val (.int p1), .val (.int p2), .val (.int p3), .val (.int p4), .val (.int (0 : Int32)), .val (.int (3 : Int32)), .val (.int c_183), .val (.int c_184), .val (.int c_185), .val (.int c_186), .val (.ref b274), .val (.ref wR), .unset, .unset, .unset] [(.int (84 : Int32)), (.int c_185)])) _
              refine XS.icmpNo X304.here hx rfl (hb hby at_225) rfl (teq (hc310 : c_185 = (84 : Int32))).2 ?_
              show Steps p.tables e below (T304.setTop (mkF m 228 #[.val (.int p0), .val (.int p1), .val (.int p2), .val (.int p3), .val (.int p4), .val (.int (0 : Int32)), .val (.int (3 : Int32)), .val (.int c_183), .val (.int c_184), .val (.int c_185), .val (.int c_186), .val (.ref b274), .val (.ref wR), .unset, .unset, .unset] [])) _
              refine XS.iconst X304.here hx rfl (hb hby at_228) ?_
              show Steps p.tables e below (T304.setTop (mkF m 229 #[.val (.int p0), .val (.int p1), .val (.int p2), .val (.int p3), .val (.int p4), .val (.int (0 : Int32)), .val (.int (3 : Int32)), .val (.int c_183), .val (.int c_184), .val (.int c_185), .val (.int c_186), .val (.ref b274), .val (.ref wR), .unset, .unset, .unset] [(.int (1 : Int32))])) _
              refine XS.goto X304.here hx rfl (pc0 := 229) (pc' := 233) rfl (hb hby at_229) (by decide) (by decide) ?_
              show Steps p.tables e below (T304.setTop (mkF m 233 #[.val (.int p0), .val (.int p1), .val (.int p2), .val (.int p3), .val (.int p4), .val (.int (0 : Int32)), .val (.int (3 : Int32)), .val (.int c_183), .val (.int c_184), .val (.int c_185), .val (.int c_186), .val (.ref b274), .val (.ref wR), .unset, .unset, .unset] [(.int (1 : Int32))])) _
              refine XS.istore X304.here hx rfl (hb hby at_233) rfl (l' := #[.val (.int p0), .val (.int p1), .val (.int p2), .val (.int p3), .val (.int p4), .val (.int (0 : Int32)), .val (.int (3 : Int32)), .val (.int c_183), .val (.int c_184), .val (.int c_185), .val (.int c_186), .val (.ref b274), .val (.ref wR), .val (.int (1 : Int32)), .unset, .unset]) rfl ?_
              show Steps p.tables e below (T304.setTop (mkF m 235 #[.val (.int p0), .val (.int p1), .val (.int p2), .val (.int p3), .val (.int p4), .val (.int (0 : Int32)), .val (.int (3 : Int32)), .val (.int c_183), .val (.int c_184), .val (.int c_185), .val (.int c_186), .val (.ref b274), .val (.ref wR), .val (.int (1 : Int32)), .unset, .unset] [])) _
              refine XS.iload X304.here hx rfl (hb hby at_235) rfl ?_
              show Steps p.tables e below (T304.setTop (mkF m 237 #[.val (.int p0), .val (.int p1), .val (.int p2), .val (.int p3), .val (.int p4), .val (.int (0 : Int32)), .val (.int (3 : Int32)), .val (.int c_183), .val (.int c_184), .val (.int c_185), .val (.int c_186), .val (.ref b274), .val (.ref wR), .val (.int (1 : Int32)), .unset, .unset] [(.int (3 : Int32))])) _
              refine XS.iconst X304.here hx rfl (hb hby at_237) ?_
              show Steps p.tables e below (T304.setTop (mkF m 238 #[.val (.int p0), .val (.int p1), .val (.int p2), .val (.int p3), .val (.int p4), .val (.int (0 : Int32)), .val (.int (3 : Int32)), .val (.int c_183), .val (.int c_184), .val (.int c_185), .val (.int c_186), .val (.ref b274), .val (.ref wR), .val (.int (1 : Int32)), .unset, .unset] [(.int (4 : Int32)), (.int (3 : Int32))])) _
              refine XS.icmpYes X304.here hx rfl (pc0 := 238) (pc' := 273) rfl (hb hby at_238) rfl (feq (by decide : ¬ ((3 : Int32) = (4 : Int32)))).2 (by decide) (by decide) ?_
              show Steps p.tables e below (T304.setTop (mkF m 273 #[.val (.int p0), .val (.int p1), .val (.int p2), .val (.int p3), .val (.int p4), .val (.int (0 : Int32)), .val (.int (3 : Int32)), .val (.int c_183), .val (.int c_184), .val (.int c_185), .val (.int c_186), .val (.ref b274), .val (.ref wR), .val (.int (1 : Int32)), .unset, .unset] [])) _
              refine XS.iconst X304.here hx rfl (hb hby at_273) ?_
              show Steps p.tables e below (T304.setTop (mkF m 274 #[.val (.int p0), .val (.int p1), .val (.int p2), .val (.int p3), .val (.int p4), .val (.int (0 : Int32)), .val (.int (3 : Int32)), .val (.int c_183), .val (.int c_184), .val (.int c_185), .val (.int c_186), .val (.ref b274), .val (.ref wR), .val (.int (1 : Int32)), .unset, .unset] [(.int (0 : Int32))])) _
              refine XS.istore X304.here hx rfl (hb hby at_274) rfl (l' := #[.val (.int p0), .val (.int p1), .val (.int p2), .val (.int p3), .val (.int p4), .val (.int (0 : Int32)), .val (.int (3 : Int32)), .val (.int c_183), .val (.int c_184), .val (.int c_185), .val (.int c_186), .val (.ref b274), .val (.ref wR), .val (.int (1 : Int32)), .val (.int (0 : Int32)), .unset]) rfl ?_
              show Steps p.tables e below (T304.setTop (mkF m 276 #[.val (.int p0), .val (.int p1), .val (.int p2), .val (.int p3), .val (.int p4), .val (.int (0 : Int32)), .val (.int (3 : Int32)), .val (.int c_183), .val (.int c_184), .val (.int c_185), .val (.int c_186), .val (.ref b274), .val (.ref wR), .val (.int (1 : Int32)), .val (.int (0 : Int32)), .unset] [])) _
              refine XS.iload X304.here hx rfl (hb hby at_276) rfl ?_
              show Steps p.tables e below (T304.setTop (mkF m 278 #[.val (.int p0), .val (.int p1), .val (.int p2), .val (.int p3), .val (.int p4), .val (.int (0 : Int32)), .val (.int (3 : Int32)), .val (.int c_183), .val (.int c_184), .val (.int c_185), .val (.int c_186), .val (.ref b274), .val (.ref wR), .val (.int (1 : Int32)), .val (.int (0 : Int32)), .unset] [(.int (0 : Int32))])) _
              refine XS.ifNo X304.here hx rfl (hb hby at_278) rfl ((if0 _ _).trans (teq (by decide : (0 : Int32) = (0 : Int32))).2) ?_
              show Steps p.tables e below (T304.setTop (mkF m 281 #[.val (.int p0), .val (.int p1), .val (.int p2), .val (.int p3), .val (.int p4), .val (.int (0 : Int32)), .val (.int (3 : Int32)), .val (.int c_183), .val (.int c_184), .val (.int c_185), .val (.int c_186), .val (.ref b274), .val (.ref wR), .val (.int (1 : Int32)), .val (.int (0 : Int32)), .unset] [])) _
              refine XS.iload X304.here hx rfl (hb hby at_281) rfl ?_
              show Steps p.tables e below (T304.setTop (mkF m 283 #[.val (.int p0), .val (.int p1), .val (.int p2), .val (.int p3), .val (.int p4), .val (.int (0 : Int32)), .val (.int (3 : Int32)), .val (.int c_183), .val (.int c_184), .val (.int c_185), .val (.int c_186), .val (.ref b274), .val (.ref wR), .val (.int (1 : Int32)), .val (.int (0 : Int32)), .unset] [(.int (1 : Int32))])) _
              refine XS.ifYes X304.here hx rfl (pc0 := 283) (pc' := 291) rfl (hb hby at_283) rfl ((if0 _ _).trans (feq (by decide : ¬ ((1 : Int32) = (0 : Int32)))).2) (by decide) (by decide) ?_
              show Steps p.tables e below (T304.setTop (mkF m 291 #[.val (.int p0), .val (.int p1), .val (.int p2), .val (.int p3), .val (.int p4), .val (.int (0 : Int32)), .val (.int (3 : Int32)), .val (.int c_183), .val (.int c_184), .val (.int c_185), .val (.int c_186), .val (.ref b274), .val (.ref wR), .val (.int (1 : Int32)), .val (.int (0 : Int32)), .unset] [])) _
              refine XS.iconst X304.here hx rfl (hb hby at_291) ?_
              show Steps p.tables e below (T304.setTop (mkF m 292 #[.val (.int p0), .val (.int p1), .val (.int p2), .val (.int p3), .val (.int p4), .val (.int (0 : Int32)), .val (.int (3 : Int32)), .val (.int c_183), .val (.int c_184), .val (.int c_185), .val (.int c_186), .val (.ref b274), .val (.ref wR), .val (.int (1 : Int32)), .val (.int (0 : Int32)), .unset] [(.int (1 : Int32))])) _
              refine XS.goto X304.here hx rfl (pc0 := 292) (pc' := 296) rfl (hb hby at_292) (by decide) (by decide) ?_
              show Steps p.tables e below (T304.setTop (mkF m 296 #[.val (.int p0), .val (.int p1), .val (.int p2), .val (.int p3), .val (.int p4), .val (.int (0 : Int32)), .val (.int (3 : Int32)), .val (.int c_183), .val (.int c_184), .val (.int c_185), .val (.int c_186), .val (.ref b274), .val (.ref wR), .val (.int (1 : Int32)), .val (.int (0 : Int32)), .unset] [(.int (1 : Int32))])) _
              refine XS.istore X304.here hx rfl (hb hby at_296) rfl (l' := #[.val (.int p0), .val (.int p1), .val (.int p2), .val (.int p3), .val (.int p4), .val (.int (0 : Int32)), .val (.int (3 : Int32)), .val (.int c_183), .val (.int c_184), .val (.int c_185), .val (.int c_186), .val (.ref b274), .val (.ref wR), .val (.int (1 : Int32)), .val (.int (0 : Int32)), .val (.int (1 : Int32))]) rfl ?_
              show Steps p.tables e below (T304.setTop (mkF m 298 #[.val (.int p0), .val (.int p1), .val (.int p2), .val (.int p3), .val (.int p4), .val (.int (0 : Int32)), .val (.int (3 : Int32)), .val (.int c_183), .val (.int c_184), .val (.int c_185), .val (.int c_186), .val (.ref b274), .val (.ref wR), .val (.int (1 : Int32)), .val (.int (0 : Int32)), .val (.int (1 : Int32))] [])) _
              refine XS.aload X304.here hx rfl (hb hby at_298) rfl rfl ?_
              show Steps p.tables e below (T304.setTop (mkF m 300 #[.val (.int p0), .val (.int p1), .val (.int p2), .val (.int p3), .val (.int p4), .val (.int (0 : Int32)), .val (.int (3 : Int32)), .val (.int c_183), .val (.int c_184), .val (.int c_185), .val (.int c_186), .val (.ref b274), .val (.ref wR), .val (.int (1 : Int32)), .val (.int (0 : Int32)), .val (.int (1 : Int32))] [(.ref wR)])) _
              refine XS.aload X304.here hx rfl (hb hby at_300) rfl rfl ?_
              show Steps p.tables e below (T304.setTop (mkF m 302 #[.val (.int p0), .val (.int p1), .val (.int p2), .val (.int p3), .val (.int p4), .val (.int (0 : Int32)), .val (.int (3 : Int32)), .val (.int c_183), .val (.int c_184), .val (.int c_185), .val (.int c_186), .val (.ref b274), .val (.ref wR), .val (.int (1 : Int32)), .val (.int (0 : Int32)), .val (.int (1 : Int32))] [(.ref b274), (.ref wR)])) _
              refine st314.trans ?_
              show Steps p.tables e below (T314.setTop (mkF m 305 #[.val (.int p0), .val (.int p1), .val (.int p2), .val (.int p3), .val (.int p4), .val (.int (0 : Int32)), .val (.int (3 : Int32)), .val (.int c_183), .val (.int c_184), .val (.int c_185), .val (.int c_186), .val (.ref b274), .val (.ref wR), .val (.int (1 : Int32)), .val (.int (0 : Int32)), .val (.int (1 : Int32))] [(.int (bi (([c_183, c_184, c_185] : List Int32) = ([(71 : Int32), (69 : Int32), (84 : Int32)] : List Int32))))])) _
              refine XS.iload X314.here hx rfl (hb hby at_305) rfl ?_
              show Steps p.tables e below (T314.setTop (mkF m 307 #[.val (.int p0), .val (.int p1), .val (.int p2), .val (.int p3), .val (.int p4), .val (.int (0 : Int32)), .val (.int (3 : Int32)), .val (.int c_183), .val (.int c_184), .val (.int c_185), .val (.int c_186), .val (.ref b274), .val (.ref wR), .val (.int (1 : Int32)), .val (.int (0 : Int32)), .val (.int (1 : Int32))] [(.int (1 : Int32)), (.int (bi (([c_183, c_184, c_185] : List Int32) = ([(71 : Int32), (69 : Int32), (84 : Int32)] : List Int32))))])) _
              refine XS.icmpNo X314.here hx rfl (hb hby at_307) rfl (teq ((bi_t (by simp [hc306, hc308, hc310])) : (bi (([c_183, c_184, c_185] : List Int32) = ([(71 : Int32), (69 : Int32), (84 : Int32)] : List Int32))) = (1 : Int32))).2 ?_
              show Steps p.tables e below (T314.setTop (mkF m 310 #[.val (.int p0), .val (.int p1), .val (.int p2), .val (.int p3), .val (.int p4), .val (.int (0 : Int32)), .val (.int (3 : Int32)), .val (.int c_183), .val (.int c_184), .val (.int c_185), .val (.int c_186), .val (.ref b274), .val (.ref wR), .val (.int (1 : Int32)), .val (.int (0 : Int32)), .val (.int (1 : Int32))] [])) _
              refine XS.iconst X314.here hx rfl (hb hby at_310) ?_
              show Steps p.tables e below (T314.setTop (mkF m 311 #[.val (.int p0), .val (.int p1), .val (.int p2), .val (.int p3), .val (.int p4), .val (.int (0 : Int32)), .val (.int (3 : Int32)), .val (.int c_183), .val (.int c_184), .val (.int c_185), .val (.int c_186), .val (.ref b274), .val (.ref wR), .val (.int (1 : Int32)), .val (.int (0 : Int32)), .val (.int (1 : Int32))] [(.int (1 : Int32))])) _
              refine XS.goto X314.here hx rfl (pc0 := 311) (pc' := 315) rfl (hb hby at_311) (by decide) (by decide) ?_
              show Steps p.tables e below (T314.setTop (mkF m 315 #[.val (.int p0), .val (.int p1), .val (.int p2), .val (.int p3), .val (.int p4), .val (.int (0 : Int32)), .val (.int (3 : Int32)), .val (.int c_183), .val (.int c_184), .val (.int c_185), .val (.int c_186), .val (.ref b274), .val (.ref wR), .val (.int (1 : Int32)), .val (.int (0 : Int32)), .val (.int (1 : Int32))] [(.int (1 : Int32))])) _
              exact retN X314 hx (t := .boolean) Bd.returns (by simp) (hb hby at_315) hr
            · show Qrm0 Z p0 p1 p2 p3 p4 wF wR G1 h0 n0 _ T314.heap _
              exact ⟨rfl, (fun y hy => Nat.le_trans Z0 (N314 y hy)), KC318⟩
          · have Xo319 : Ext Z.heap T294.heap := own_extT X00 (own_ext KC300)
            have Fc320 := (own_staK (((((H0.ext E274).ext E278).wr W283).wr W287).wr W291) K294 (allS ⟨_, Fc295⟩ all0))
            have Fc321 := (own_staK Fc298 K294 (allS ⟨_, Fc295⟩ all0))
            have z323 := congrArg Array.size e304
            have Fc324 := ((((((H3.ext E274).ext E278).wr W283).wr W287).wr W291).keep K294)
            obtain ⟨cq322, kq322, qa322, qb322, qc322⟩ := isOf hZ e304 Fc324
            obtain ⟨_, _, ⟨T322, L322, k322, n322⟩, -, Y322, hY322, gY322, ⟨Lc322, hQ322, l322, y322, z322⟩, st322⟩ := X304.virtualBackS hx (y := (⟨"com/example/task_relay/taskrelay/Scope", "allows", "(Ljava/lang/String;)Z"⟩ : MethodName)) (z := (⟨"com/example/task_relay/taskrelay/Scope", "allows", "(Ljava/lang/String;)Z"⟩ : MethodName)) hown (mvT hZ (hw _ (List.mem_of_getElem? (i := 15) rfl))) (mvT hZ (hw _ (List.mem_of_getElem? (i := 16) rfl))) (notFace_of_selects (args := #[]) (mvT hZ (hw _ (List.mem_of_getElem? (i := 18) rfl)))) (mvT hZ (hw _ (List.mem_of_getElem? (i := 18) rfl))) (mvT hZ (hw _ (List.mem_of_getElem? (i := 17) rfl))) (by decide) (backOfI (W := 0) (rmar3 l Z a0 hw [] wR b274 wF G1 bv294 kb294 c_183 c_184 c_185 T294.heap h0.size (by omega) Fc320 Fc321 (hG1 : ¬ (G1 = (0 : Int32))) (hh58 : Jvm.Lit.constHeld Z "com/example/task_relay/taskrelay/Scope" 58) (hh60 : Jvm.Lit.constHeld Z "com/example/task_relay/taskrelay/Scope" 60) (Xo319 : Ext Z.heap T294.heap) (hcw : Jvm.Lit.compactW.before a0 Z = true) (hne : ¬ (wR = wF)) P294E P294C P294V P294B (P183_0 : ¬ (c_183 < 0) ∧ ¬ ((255 : Int32) < c_183)) (P184_0 : ¬ (c_184 < 0) ∧ ¬ ((255 : Int32) < c_184)) (P185_0 : ¬ (c_185 < 0) ∧ ¬ ((255 : Int32) < c_185))) hZ (hw _ (List.mem_of_getElem? (i := 19) rfl)) (hw _ (List.mem_of_getElem? (i := 13) rfl)) (by decide) (by decide)) qa322 qc322 (g := (mkF m 302 #[.val (.int p0), .val (.int p1), .val (.int p2), .val (.int p3), .val (.int p4), .val (.int (0 : Int32)), .val (.int (3 : Int32)), .val (.int c_183), .val (.int c_184), .val (.int c_185), .val (.int c_186), .val (.ref b274), .val (.ref wR), .val (.int (0 : Int32)), .val (.int (0 : Int32)), .val (.int (0 : Int32))] [(.ref b274), (.ref wR)])) rfl (by rw [hml]; rfl) (Steps.refl _) (argsL := [(.ref b274)]) (rest := []) (lenOf pd_2 rfl) rfl (by show 2 * 0 + _ ≤ _; exact Nat.le_of_eq rfl) (hb hby at_302) (fun _ Hw => ⟨rfl, e304, (by decide : 3 + 4 ≤ _), (by decide : 10 + 36 ≤ _), own_IBw hI Hw⟩)
            dsimp only [Pt.U, Pt.locs, Pt.cells, Pt.slots] at Y322 hY322 gY322 l322 y322 z322 st322 hQ322
            subst l322 y322 z322
            obtain ⟨X322, hS322, hZ322, hw322⟩ := rebS (s := s) (vm0 := s.vm) hS0 (by omega : h0.size ≤ T304.heap.size) Y322 hY322 gY322 hZ hown
            obtain ⟨rfl, N322q, K322⟩ := hQ322
            have N322 := Fr.app N294 N322q
            have z325 := K322.1
            have KC326 : Keep h0 T322.heap [] := KC300.trans K322 all0
            obtain ⟨fs, hr, hrun, hended, rE1, rE2, rE3, rE4⟩ := leaveW (s := s) (vm₁ := T322.vm) X322 hS322 (by omega : T322.heap.size ≤ T322.heap.size) (v := some (.int (1 : Int32))) (fun h => by rw [Bd.returns] at h; cases h)
            refine ⟨_, _, pre309 _ ?_, hrun, hended, _, _, rfl, ?_, rE1, rE2, rE3, rE4.mono (by decide) (by decide)⟩
            · show Steps p.tables e below (T304.setTop (mkF m 225 #[.val (.int p0), .val (.int p1), .val (.int p2), .val (.int p3), .val (.int p4), .val (.int (0 : Int32)), .val (.int (3 : Int32)), .val (.int c_183), .val (.int c_184), .val (.int c_185), .val (.int c_186), .val (.ref b274), .val (.ref wR), .unset, .unset, .unset] [(.int (84 : Int32)), (.int c_185)])) _
              refine XS.icmpYes X304.here hx rfl (pc0 := 225) (pc' := 232) rfl (hb hby at_225) rfl (feq (hc310 : ¬ (c_185 = (84 : Int32)))).2 (by decide) (by decide) ?_
              show Steps p.tables e below (T304.setTop (mkF m 232 #[.val (.int p0), .val (.int p1), .val (.int p2), .val (.int p3), .val (.int p4), .val (.int (0 : Int32)), .val (.int (3 : Int32)), .val (.int c_183), .val (.int c_184), .val (.int c_185), .val (.int c_186), .val (.ref b274), .val (.ref wR), .unset, .unset, .unset] [])) _
              refine XS.iconst X304.here hx rfl (hb hby at_232) ?_
              show Steps p.tables e below (T304.setTop (mkF m 233 #[.val (.int p0), .val (.int p1), .val (.int p2), .val (.int p3), .val (.int p4), .val (.int (0 : Int32)), .val (.int (3 : Int32)), .val (.int c_183), .val (.int c_184), .val (.int c_185), .val (.int c_186), .val (.ref b274), .val (.ref wR), .unset, .unset, .unset] [(.int (0 : Int32))])) _
              refine XS.istore X304.here hx rfl (hb hby at_233) rfl (l' := #[.val (.int p0), .val (.int p1), .val (.int p2), .val (.int p3), .val (.int p4), .val (.int (0 : Int32)), .val (.int (3 : Int32)), .val (.int c_183), .val (.int c_184), .val (.int c_185), .val (.int c_186), .val (.ref b274), .val (.ref wR), .val (.int (0 : Int32)), .unset, .unset]) rfl ?_
              show Steps p.tables e below (T304.setTop (mkF m 235 #[.val (.int p0), .val (.int p1), .val (.int p2), .val (.int p3), .val (.int p4), .val (.int (0 : Int32)), .val (.int (3 : Int32)), .val (.int c_183), .val (.int c_184), .val (.int c_185), .val (.int c_186), .val (.ref b274), .val (.ref wR), .val (.int (0 : Int32)), .unset, .unset] [])) _
              refine XS.iload X304.here hx rfl (hb hby at_235) rfl ?_
              show Steps p.tables e below (T304.setTop (mkF m 237 #[.val (.int p0), .val (.int p1), .val (.int p2), .val (.int p3), .val (.int p4), .val (.int (0 : Int32)), .val (.int (3 : Int32)), .val (.int c_183), .val (.int c_184), .val (.int c_185), .val (.int c_186), .val (.ref b274), .val (.ref wR), .val (.int (0 : Int32)), .unset, .unset] [(.int (3 : Int32))])) _
              refine XS.iconst X304.here hx rfl (hb hby at_237) ?_
              show Steps p.tables e below (T304.setTop (mkF m 238 #[.val (.int p0), .val (.int p1), .val (.int p2), .val (.int p3), .val (.int p4), .val (.int (0 : Int32)), .val (.int (3 : Int32)), .val (.int c_183), .val (.int c_184), .val (.int c_185), .val (.int c_186), .val (.ref b274), .val (.ref wR), .val (.int (0 : Int32)), .unset, .unset] [(.int (4 : Int32)), (.int (3 : Int32))])) _
              refine XS.icmpYes X304.here hx rfl (pc0 := 238) (pc' := 273) rfl (hb hby at_238) rfl (feq (by decide : ¬ ((3 : Int32) = (4 : Int32)))).2 (by decide) (by decide) ?_
              show Steps p.tables e below (T304.setTop (mkF m 273 #[.val (.int p0), .val (.int p1), .val (.int p2), .val (.int p3), .val (.int p4), .val (.int (0 : Int32)), .val (.int (3 : Int32)), .val (.int c_183), .val (.int c_184), .val (.int c_185), .val (.int c_186), .val (.ref b274), .val (.ref wR), .val (.int (0 : Int32)), .unset, .unset] [])) _
              refine XS.iconst X304.here hx rfl (hb hby at_273) ?_
              show Steps p.tables e below (T304.setTop (mkF m 274 #[.val (.int p0), .val (.int p1), .val (.int p2), .val (.int p3), .val (.int p4), .val (.int (0 : Int32)), .val (.int (3 : Int32)), .val (.int c_183), .val (.int c_184), .val (.int c_185), .val (.int c_186), .val (.ref b274), .val (.ref wR), .val (.int (0 : Int32)), .unset, .unset] [(.int (0 : Int32))])) _
              refine XS.istore X304.here hx rfl (hb hby at_274) rfl (l' := #[.val (.int p0), .val (.int p1), .val (.int p2), .val (.int p3), .val (.int p4), .val (.int (0 : Int32)), .val (.int (3 : Int32)), .val (.int c_183), .val (.int c_184), .val (.int c_185), .val (.int c_186), .val (.ref b274), .val (.ref wR), .val (.int (0 : Int32)), .val (.int (0 : Int32)), .unset]) rfl ?_
              show Steps p.tables e below (T304.setTop (mkF m 276 #[.val (.int p0), .val (.int p1), .val (.int p2), .val (.int p3), .val (.int p4), .val (.int (0 : Int32)), .val (.int (3 : Int32)), .val (.int c_183), .val (.int c_184), .val (.int c_185), .val (.int c_186), .val (.ref b274), .val (.ref wR), .val (.int (0 : Int32)), .val (.int (0 : Int32)), .unset] [])) _
              refine XS.iload X304.here hx rfl (hb hby at_276) rfl ?_
              show Steps p.tables e below (T304.setTop (mkF m 278 #[.val (.int p0), .val (.int p1), .val (.int p2), .val (.int p3), .val (.int p4), .val (.int (0 : Int32)), .val (.int (3 : Int32)), .val (.int c_183), .val (.int c_184), .val (.int c_185), .val (.int c_186), .val (.ref b274), .val (.ref wR), .val (.int (0 : Int32)), .val (.int (0 : Int32)), .unset] [(.int (0 : Int32))])) _
              refine XS.ifNo X304.here hx rfl (hb hby at_278) rfl ((if0 _ _).trans (teq (by decide : (0 : Int32) = (0 : Int32))).2) ?_
              show Steps p.tables e below (T304.setTop (mkF m 281 #[.val (.int p0), .val (.int p1), .val (.int p2), .val (.int p3), .val (.int p4), .val (.int (0 : Int32)), .val (.int (3 : Int32)), .val (.int c_183), .val (.int c_184), .val (.int c_185), .val (.int c_186), .val (.ref b274), .val (.ref wR), .val (.int (0 : Int32)), .val (.int (0 : Int32)), .unset] [])) _
              refine XS.iload X304.here hx rfl (hb hby at_281) rfl ?_
              show Steps p.tables e below (T304.setTop (mkF m 283 #[.val (.int p0), .val (.int p1), .val (.int p2), .val (.int p3), .val (.int p4), .val (.int (0 : Int32)), .val (.int (3 : Int32)), .val (.int c_183), .val (.int c_184), .val (.int c_185), .val (.int c_186), .val (.ref b274), .val (.ref wR), .val (.int (0 : Int32)), .val (.int (0 : Int32)), .unset] [(.int (0 : Int32))])) _
              refine XS.ifNo X304.here hx rfl (hb hby at_283) rfl ((if0 _ _).trans (teq (by decide : (0 : Int32) = (0 : Int32))).2) ?_
              show Steps p.tables e below (T304.setTop (mkF m 286 #[.val (.int p0), .val (.int p1), .val (.int p2), .val (.int p3), .val (.int p4), .val (.int (0 : Int32)), .val (.int (3 : Int32)), .val (.int c_183), .val (.int c_184), .val (.int c_185), .val (.int c_186), .val (.ref b274), .val (.ref wR), .val (.int (0 : Int32)), .val (.int (0 : Int32)), .unset] [])) _
              refine XS.iload X304.here hx rfl (hb hby at_286) rfl ?_
              show Steps p.tables e below (T304.setTop (mkF m 288 #[.val (.int p0), .val (.int p1), .val (.int p2), .val (.int p3), .val (.int p4), .val (.int (0 : Int32)), .val (.int (3 : Int32)), .val (.int c_183), .val (.int c_184), .val (.int c_185), .val (.int c_186), .val (.ref b274), .val (.ref wR), .val (.int (0 : Int32)), .val (.int (0 : Int32)), .unset] [(.int (0 : Int32))])) _
              refine XS.ifYes X304.here hx rfl (pc0 := 288) (pc' := 295) rfl (hb hby at_288) rfl ((if0 _ _).trans (teq (by decide : (0 : Int32) = (0 : Int32))).1) (by decide) (by decide) ?_
              show Steps p.tables e below (T304.setTop (mkF m 295 #[.val (.int p0), .val (.int p1), .val (.int p2), .val (.int p3), .val (.int p4), .val (.int (0 : Int32)), .val (.int (3 : Int32)), .val (.int c_183), .val (.int c_184), .val (.int c_185), .val (.int c_186), .val (.ref b274), .val (.ref wR), .val (.int (0 : Int32)), .val (.int (0 : Int32)), .unset] [])) _
              refine XS.iconst X304.here hx rfl (hb hby at_295) ?_
              show Steps p.tables e below (T304.setTop (mkF m 296 #[.val (.int p0), .val (.int p1), .val (.int p2), .val (.int p3), .val (.int p4), .val (.int (0 : Int32)), .val (.int (3 : Int32)), .val (.int c_183), .val (.int c_184), .val (.int c_185), .val (.int c_186), .val (.ref b274), .val (.ref wR), .val (.int (0 : Int32)), .val (.int (0 : Int32)), .unset] [(.int (0 : Int32))])) _
              refine XS.istore X304.here hx rfl (hb hby at_296) rfl (l' := #[.val (.int p0), .val (.int p1), .val (.int p2), .val (.int p3), .val (.int p4), .val (.int (0 : Int32)), .val (.int (3 : Int32)), .val (.int c_183), .val (.int c_184), .val (.int c_185), .val (.int c_186), .val (.ref b274), .val (.ref wR), .val (.int (0 : Int32)), .val (.int (0 : Int32)), .val (.int (0 : Int32))]) rfl ?_
              show Steps p.tables e below (T304.setTop (mkF m 298 #[.val (.int p0), .val (.int p1), .val (.int p2), .val (.int p3), .val (.int p4), .val (.int (0 : Int32)), .val (.int (3 : Int32)), .val (.int c_183), .val (.int c_184), .val (.int c_185), .val (.int c_186), .val (.ref b274), .val (.ref wR), .val (.int (0 : Int32)), .val (.int (0 : Int32)), .val (.int (0 : Int32))] [])) _
              refine XS.aload X304.here hx rfl (hb hby at_298) rfl rfl ?_
              show Steps p.tables e below (T304.setTop (mkF m 300 #[.val (.int p0), .val (.int p1), .val (.int p2), .val (.int p3), .val (.int p4), .val (.int (0 : Int32)), .val (.int (3 : Int32)), .val (.int c_183), .val (.int c_184), .val (.int c_185), .val (.int c_186), .val (.ref b274), .val (.ref wR), .val (.int (0 : Int32)), .val (.int (0 : Int32)), .val (.int (0 : Int32))] [(.ref wR)])) _
              refine XS.aload X304.here hx rfl (hb hby at_300) rfl rfl ?_
              show Steps p.tables e below (T304.setTop (mkF m 302 #[.val (.int p0), .val (.int p1), .val (.int p2), .val (.int p3), .val (.int p4), .val (.int (0 : Int32)), .val (.int (3 : Int32)), .val (.int c_183), .val (.int c_184), .val (.int c_185), .val (.int c_186), .val (.ref b274), .val (.ref wR), .val (.int (0 : Int32)), .val (.int (0 : Int32)), .val (.int (0 : Int32))] [(.ref b274), (.ref wR)])) _
              refine st322.trans ?_
              show Steps p.tables e below (T322.setTop (mkF m 305 #[.val (.int p0), .val (.int p1), .val (.int p2), .val (.int p3), .val (.int p4), .val (.int (0 : Int32)), .val (.int (3 : Int32)), .val (.int c_183), .val (.int c_184), .val (.int c_185), .val (.int c_186), .val (.ref b274), .val (.ref wR), .val (.int (0 : Int32)), .val (.int (0 : Int32)), .val (.int (0 : Int32))] [(.int (bi (([c_183, c_184, c_185] : List Int32) = ([(71 : Int32), (69 : Int32), (84 : Int32)] : List Int32))))])) _
              refine XS.iload X322.here hx rfl (hb hby at_305) rfl ?_
              show Steps p.tables e below (T322.setTop (mkF m 307 #[.val (.int p0), .val (.int p1), .val (.int p2), .val (.int p3), .val (.int p4), .val (.int (0 : Int32)), .val (.int (3 : Int32)), .val (.int c_183), .val (.int c_184), .val (.int c_185), .val (.int c_186), .val (.ref b274), .val (.ref wR), .val (.int (0 : Int32)), .val (.int (0 : Int32)), .val (.int (0 : Int32))] [(.int (0 : Int32)), (.int (bi (([c_183, c_184, c_185] : List Int32) = ([(71 : Int32), (69 : Int32), (84 : Int32)] : List Int32))))])) _
              refine XS.icmpNo X322.here hx rfl (hb hby at_307) rfl (teq ((bi_f (by simp [hc310])) : (bi (([c_183, c_184, c_185] : List Int32) = ([(71 : Int32), (69 : Int32), (84 : Int32)] : List Int32))) = (0 : Int32))).2 ?_
              show Steps p.tables e below (T322.setTop (mkF m 310 #[.val (.int p0), .val (.int p1), .val (.int p2), .val (.int p3), .val (.int p4), .val (.int (0 : Int32)), .val (.int (3 : Int32)), .val (.int c_183), .val (.int c_184), .val (.int c_185), .val (.int c_186), .val (.ref b274), .val (.ref wR), .val (.int (0 : Int32)), .val (.int (0 : Int32)), .val (.int (0 : Int32))] [])) _
              refine XS.iconst X322.here hx rfl (hb hby at_310) ?_
              show Steps p.tables e below (T322.setTop (mkF m 311 #[.val (.int p0), .val (.int p1), .val (.int p2), .val (.int p3), .val (.int p4), .val (.int (0 : Int32)), .val (.int (3 : Int32)), .val (.int c_183), .val (.int c_184), .val (.int c_185), .val (.int c_186), .val (.ref b274), .val (.ref wR), .val (.int (0 : Int32)), .val (.int (0 : Int32)), .val (.int (0 : Int32))] [(.int (1 : Int32))])) _
              refine XS.goto X322.here hx rfl (pc0 := 311) (pc' := 315) rfl (hb hby at_311) (by decide) (by decide) ?_
              show Steps p.tables e below (T322.setTop (mkF m 315 #[.val (.int p0), .val (.int p1), .val (.int p2), .val (.int p3), .val (.int p4), .val (.int (0 : Int32)), .val (.int (3 : Int32)), .val (.int c_183), .val (.int c_184), .val (.int c_185), .val (.int c_186), .val (.ref b274), .val (.ref wR), .val (.int (0 : Int32)), .val (.int (0 : Int32)), .val (.int (0 : Int32))] [(.int (1 : Int32))])) _
              exact retN X322 hx (t := .boolean) Bd.returns (by simp) (hb hby at_315) hr
            · show Qrm0 Z p0 p1 p2 p3 p4 wF wR G1 h0 n0 _ T322.heap _
              exact ⟨rfl, (fun y hy => Nat.le_trans Z0 (N322 y hy)), KC326⟩
        · have Xo327 : Ext Z.heap T294.heap := own_extT X00 (own_ext KC300)
          have Fc328 := (own_staK (((((H0.ext E274).ext E278).wr W283).wr W287).wr W291) K294 (allS ⟨_, Fc295⟩ all0))
          have Fc329 := (own_staK Fc298 K294 (allS ⟨_, Fc295⟩ all0))
          have z331 := congrArg Array.size e304
          have Fc332 := ((((((H3.ext E274).ext E278).wr W283).wr W287).wr W291).keep K294)
          obtain ⟨cq330, kq330, qa330, qb330, qc330⟩ := isOf hZ e304 Fc332
          obtain ⟨_, _, ⟨T330, L330, k330, n330⟩, -, Y330, hY330, gY330, ⟨Lc330, hQ330, l330, y330, z330⟩, st330⟩ := X304.virtualBackS hx (y := (⟨"com/example/task_relay/taskrelay/Scope", "allows", "(Ljava/lang/String;)Z"⟩ : MethodName)) (z := (⟨"com/example/task_relay/taskrelay/Scope", "allows", "(Ljava/lang/String;)Z"⟩ : MethodName)) hown (mvT hZ (hw _ (List.mem_of_getElem? (i := 15) rfl))) (mvT hZ (hw _ (List.mem_of_getElem? (i := 16) rfl))) (notFace_of_selects (args := #[]) (mvT hZ (hw _ (List.mem_of_getElem? (i := 18) rfl)))) (mvT hZ (hw _ (List.mem_of_getElem? (i := 18) rfl))) (mvT hZ (hw _ (List.mem_of_getElem? (i := 17) rfl))) (by decide) (backOfI (W := 0) (rmar3 l Z a0 hw [] wR b274 wF G1 bv294 kb294 c_183 c_184 c_185 T294.heap h0.size (by omega) Fc328 Fc329 (hG1 : ¬ (G1 = (0 : Int32))) (hh58 : Jvm.Lit.constHeld Z "com/example/task_relay/taskrelay/Scope" 58) (hh60 : Jvm.Lit.constHeld Z "com/example/task_relay/taskrelay/Scope" 60) (Xo327 : Ext Z.heap T294.heap) (hcw : Jvm.Lit.compactW.before a0 Z = true) (hne : ¬ (wR = wF)) P294E P294C P294V P294B (P183_0 : ¬ (c_183 < 0) ∧ ¬ ((255 : Int32) < c_183)) (P184_0 : ¬ (c_184 < 0) ∧ ¬ ((255 : Int32) < c_184)) (P185_0 : ¬ (c_185 < 0) ∧ ¬ ((255 : Int32) < c_185))) hZ (hw _ (List.mem_of_getElem? (i := 19) rfl)) (hw _ (List.mem_of_getElem? (i := 13) rfl)) (by decide) (by decide)) qa330 qc330 (g := (mkF m 302 #[.val (.int p0), .val (.int p1), .val (.int p2), .val (.int p3), .val (.int p4), .val (.int (0 : Int32)), .val (.int (3 : Int32)), .val (.int c_183), .val (.int c_184), .val (.int c_185), .val (.int c_186), .val (.ref b274), .val (.ref wR), .val (.int (0 : Int32)), .val (.int (0 : Int32)), .val (.int (0 : Int32))] [(.ref b274), (.ref wR)])) rfl (by rw [hml]; rfl) (Steps.refl _) (argsL := [(.ref b274)]) (rest := []) (lenOf pd_2 rfl) rfl (by show 2 * 0 + _ ≤ _; exact Nat.le_of_eq rfl) (hb hby at_302) (fun _ Hw => ⟨rfl, e304, (by decide : 3 + 4 ≤ _), (by decide : 10 + 36 ≤ _), own_IBw hI Hw⟩)
          dsimp only [Pt.U, Pt.locs, Pt.cells, Pt.slots] at Y330 hY330 gY330 l330 y330 z330 st330 hQ330
          subst l330 y330 z330
          obtain ⟨X330, hS330, hZ330, hw330⟩ := rebS (s := s) (vm0 := s.vm) hS0 (by omega : h0.size ≤ T304.heap.size) Y330 hY330 gY330 hZ hown
          obtain ⟨rfl, N330q, K330⟩ := hQ330
          have N330 := Fr.app N294 N330q
          have z333 := K330.1
          have KC334 : Keep h0 T330.heap [] := KC300.trans K330 all0
          obtain ⟨fs, hr, hrun, hended, rE1, rE2, rE3, rE4⟩ := leaveW (s := s) (vm₁ := T330.vm) X330 hS330 (by omega : T330.heap.size ≤ T330.heap.size) (v := some (.int (1 : Int32))) (fun h => by rw [Bd.returns] at h; cases h)
          refine ⟨_, _, pre307 _ ?_, hrun, hended, _, _, rfl, ?_, rE1, rE2, rE3, rE4.mono (by decide) (by decide)⟩
          · show Steps p.tables e below (T304.setTop (mkF m 218 #[.val (.int p0), .val (.int p1), .val (.int p2), .val (.int p3), .val (.int p4), .val (.int (0 : Int32)), .val (.int (3 : Int32)), .val (.int c_183), .val (.int c_184), .val (.int c_185), .val (.int c_186), .val (.ref b274), .val (.ref wR), .unset, .unset, .unset] [(.int (69 : Int32)), (.int c_184)])) _
            refine XS.icmpYes X304.here hx rfl (pc0 := 218) (pc' := 232) rfl (hb hby at_218) rfl (feq (hc308 : ¬ (c_184 = (69 : Int32)))).2 (by decide) (by decide) ?_
            show Steps p.tables e below (T304.setTop (mkF m 232 #[.val (.int p0), .val (.int p1), .val (.int p2), .val (.int p3), .val (.int p4), .val (.int (0 : Int32)), .val (.int (3 : Int32)), .val (.int c_183), .val (.int c_184), .val (.int c_185), .val (.int c_186), .val (.ref b274), .val (.ref wR), .unset, .unset, .unset] [])) _
            refine XS.iconst X304.here hx rfl (hb hby at_232) ?_
            show Steps p.tables e below (T304.setTop (mkF m 233 #[.val (.int p0), .val (.int p1), .val (.int p2), .val (.int p3), .val (.int p4), .val (.int (0 : Int32)), .val (.int (3 : Int32)), .val (.int c_183), .val (.int c_184), .val (.int c_185), .val (.int c_186), .val (.ref b274), .val (.ref wR), .unset, .unset, .unset] [(.int (0 : Int32))])) _
            refine XS.istore X304.here hx rfl (hb hby at_233) rfl (l' := #[.val (.int p0), .val (.int p1), .val (.int p2), .val (.int p3), .val (.int p4), .val (.int (0 : Int32)), .val (.int (3 : Int32)), .val (.int c_183), .val (.int c_184), .val (.int c_185), .val (.int c_186), .val (.ref b274), .val (.ref wR), .val (.int (0 : Int32)), .unset, .unset]) rfl ?_
            show Steps p.tables e below (T304.setTop (mkF m 235 #[.val (.int p0), .val (.int p1), .val (.int p2), .val (.int p3), .val (.int p4), .val (.int (0 : Int32)), .val (.int (3 : Int32)), .val (.int c_183), .val (.int c_184), .val (.int c_185), .val (.int c_186), .val (.ref b274), .val (.ref wR), .val (.int (0 : Int32)), .unset, .unset] [])) _
            refine XS.iload X304.here hx rfl (hb hby at_235) rfl ?_
            show Steps p.tables e below (T304.setTop (mkF m 237 #[.val (.int p0), .val (.int p1), .val (.int p2), .val (.int p3), .val (.int p4), .val (.int (0 : Int32)), .val (.int (3 : Int32)), .val (.int c_183), .val (.int c_184), .val (.int c_185), .val (.int c_186), .val (.ref b274), .val (.ref wR), .val (.int (0 : Int32)), .unset, .unset] [(.int (3 : Int32))])) _
            refine XS.iconst X304.here hx rfl (hb hby at_237) ?_
            show Steps p.tables e below (T304.setTop (mkF m 238 #[.val (.int p0), .val (.int p1), .val (.int p2), .val (.int p3), .val (.int p4), .val (.int (0 : Int32)), .val (.int (3 : Int32)), .val (.int c_183), .val (.int c_184), .val (.int c_185), .val (.int c_186), .val (.ref b274), .val (.ref wR), .val (.int (0 : Int32)), .unset, .unset] [(.int (4 : Int32)), (.int (3 : Int32))])) _
            refine XS.icmpYes X304.here hx rfl (pc0 := 238) (pc' := 273) rfl (hb hby at_238) rfl (feq (by decide : ¬ ((3 : Int32) = (4 : Int32)))).2 (by decide) (by decide) ?_
            show Steps p.tables e below (T304.setTop (mkF m 273 #[.val (.int p0), .val (.int p1), .val (.int p2), .val (.int p3), .val (.int p4), .val (.int (0 : Int32)), .val (.int (3 : Int32)), .val (.int c_183), .val (.int c_184), .val (.int c_185), .val (.int c_186), .val (.ref b274), .val (.ref wR), .val (.int (0 : Int32)), .unset, .unset] [])) _
            refine XS.iconst X304.here hx rfl (hb hby at_273) ?_
            show Steps p.tables e below (T304.setTop (mkF m 274 #[.val (.int p0), .val (.int p1), .val (.int p2), .val (.int p3), .val (.int p4), .val (.int (0 : Int32)), .val (.int (3 : Int32)), .val (.int c_183), .val (.int c_184), .val (.int c_185), .val (.int c_186), .val (.ref b274), .val (.ref wR), .val (.int (0 : Int32)), .unset, .unset] [(.int (0 : Int32))])) _
            refine XS.istore X304.here hx rfl (hb hby at_274) rfl (l' := #[.val (.int p0), .val (.int p1), .val (.int p2), .val (.int p3), .val (.int p4), .val (.int (0 : Int32)), .val (.int (3 : Int32)), .val (.int c_183), .val (.int c_184), .val (.int c_185), .val (.int c_186), .val (.ref b274), .val (.ref wR), .val (.int (0 : Int32)), .val (.int (0 : Int32)), .unset]) rfl ?_
            show Steps p.tables e below (T304.setTop (mkF m 276 #[.val (.int p0), .val (.int p1), .val (.int p2), .val (.int p3), .val (.int p4), .val (.int (0 : Int32)), .val (.int (3 : Int32)), .val (.int c_183), .val (.int c_184), .val (.int c_185), .val (.int c_186), .val (.ref b274), .val (.ref wR), .val (.int (0 : Int32)), .val (.int (0 : Int32)), .unset] [])) _
            refine XS.iload X304.here hx rfl (hb hby at_276) rfl ?_
            show Steps p.tables e below (T304.setTop (mkF m 278 #[.val (.int p0), .val (.int p1), .val (.int p2), .val (.int p3), .val (.int p4), .val (.int (0 : Int32)), .val (.int (3 : Int32)), .val (.int c_183), .val (.int c_184), .val (.int c_185), .val (.int c_186), .val (.ref b274), .val (.ref wR), .val (.int (0 : Int32)), .val (.int (0 : Int32)), .unset] [(.int (0 : Int32))])) _
            refine XS.ifNo X304.here hx rfl (hb hby at_278) rfl ((if0 _ _).trans (teq (by decide : (0 : Int32) = (0 : Int32))).2) ?_
            show Steps p.tables e below (T304.setTop (mkF m 281 #[.val (.int p0), .val (.int p1), .val (.int p2), .val (.int p3), .val (.int p4), .val (.int (0 : Int32)), .val (.int (3 : Int32)), .val (.int c_183), .val (.int c_184), .val (.int c_185), .val (.int c_186), .val (.ref b274), .val (.ref wR), .val (.int (0 : Int32)), .val (.int (0 : Int32)), .unset] [])) _
            refine XS.iload X304.here hx rfl (hb hby at_281) rfl ?_
            show Steps p.tables e below (T304.setTop (mkF m 283 #[.val (.int p0), .val (.int p1), .val (.int p2), .val (.int p3), .val (.int p4), .val (.int (0 : Int32)), .val (.int (3 : Int32)), .val (.int c_183), .val (.int c_184), .val (.int c_185), .val (.int c_186), .val (.ref b274), .val (.ref wR), .val (.int (0 : Int32)), .val (.int (0 : Int32)), .unset] [(.int (0 : Int32))])) _
            refine XS.ifNo X304.here hx rfl (hb hby at_283) rfl ((if0 _ _).trans (teq (by decide : (0 : Int32) = (0 : Int32))).2) ?_
            show Steps p.tables e below (T304.setTop (mkF m 286 #[.val (.int p0), .val (.int p1), .val (.int p2), .val (.int p3), .val (.int p4), .val (.int (0 : Int32)), .val (.int (3 : Int32)), .val (.int c_183), .val (.int c_184), .val (.int c_185), .val (.int c_186), .val (.ref b274), .val (.ref wR), .val (.int (0 : Int32)), .val (.int (0 : Int32)), .unset] [])) _
            refine XS.iload X304.here hx rfl (hb hby at_286) rfl ?_
            show Steps p.tables e below (T304.setTop (mkF m 288 #[.val (.int p0), .val (.int p1), .val (.int p2), .val (.int p3), .val (.int p4), .val (.int (0 : Int32)), .val (.int (3 : Int32)), .val (.int c_183), .val (.int c_184), .val (.int c_185), .val (.int c_186), .val (.ref b274), .val (.ref wR), .val (.int (0 : Int32)), .val (.int (0 : Int32)), .unset] [(.int (0 : Int32))])) _
            refine XS.ifYes X304.here hx rfl (pc0 := 288) (pc' := 295) rfl (hb hby at_288) rfl ((if0 _ _).trans (teq (by decide : (0 : Int32) = (0 : Int32))).1) (by decide) (by decide) ?_
            show Steps p.tables e below (T304.setTop (mkF m 295 #[.val (.int p0), .val (.int p1), .val (.int p2), .val (.int p3), .val (.int p4), .val (.int (0 : Int32)), .val (.int (3 : Int32)), .val (.int c_183), .val (.int c_184), .val (.int c_185), .val (.int c_186), .val (.ref b274), .val (.ref wR), .val (.int (0 : Int32)), .val (.int (0 : Int32)), .unset] [])) _
            refine XS.iconst X304.here hx rfl (hb hby at_295) ?_
            show Steps p.tables e below (T304.setTop (mkF m 296 #[.val (.int p0), .val (.int p1), .val (.int p2), .val (.int p3), .val (.int p4), .val (.int (0 : Int32)), .val (.int (3 : Int32)), .val (.int c_183), .val (.int c_184), .val (.int c_185), .val (.int c_186), .val (.ref b274), .val (.ref wR), .val (.int (0 : Int32)), .val (.int (0 : Int32)), .unset] [(.int (0 : Int32))])) _
            refine XS.istore X304.here hx rfl (hb hby at_296) rfl (l' := #[.val (.int p0), .val (.int p1), .val (.int p2), .val (.int p3), .val (.int p4), .val (.int (0 : Int32)), .val (.int (3 : Int32)), .val (.int c_183), .val (.int c_184), .val (.int c_185), .val (.int c_186), .val (.ref b274), .val (.ref wR), .val (.int (0 : Int32)), .val (.int (0 : Int32)), .val (.int (0 : Int32))]) rfl ?_
            show Steps p.tables e below (T304.setTop (mkF m 298 #[.val (.int p0), .val (.int p1), .val (.int p2), .val (.int p3), .val (.int p4), .val (.int (0 : Int32)), .val (.int (3 : Int32)), .val (.int c_183), .val (.int c_184), .val (.int c_185), .val (.int c_186), .val (.ref b274), .val (.ref wR), .val (.int (0 : Int32)), .val (.int (0 : Int32)), .val (.int (0 : Int32))] [])) _
            refine XS.aload X304.here hx rfl (hb hby at_298) rfl rfl ?_
            show Steps p.tables e below (T304.setTop (mkF m 300 #[.val (.int p0), .val (.int p1), .val (.int p2), .val (.int p3), .val (.int p4), .val (.int (0 : Int32)), .val (.int (3 : Int32)), .val (.int c_183), .val (.int c_184), .val (.int c_185), .val (.int c_186), .val (.ref b274), .val (.ref wR), .val (.int (0 : Int32)), .val (.int (0 : Int32)), .val (.int (0 : Int32))] [(.ref wR)])) _
            refine XS.aload X304.here hx rfl (hb hby at_300) rfl rfl ?_
            show Steps p.tables e below (T304.setTop (mkF m 302 #[.val (.int p0), .val (.int p1), .val (.int p2), .val (.int p3), .val (.int p4), .val (.int (0 : Int32)), .val (.int (3 : Int32)), .val (.int c_183), .val (.int c_184), .val (.int c_185), .val (.int c_186), .val (.ref b274), .val (.ref wR), .val (.int (0 : Int32)), .val (.int (0 : Int32)), .val (.int (0 : Int32))] [(.ref b274), (.ref wR)])) _
            refine st330.trans ?_
            show Steps p.tables e below (T330.setTop (mkF m 305 #[.val (.int p0), .val (.int p1), .val (.int p2), .val (.int p3), .val (.int p4), .val (.int (0 : Int32)), .val (.int (3 : Int32)), .val (.int c_183), .val (.int c_184), .val (.int c_185), .val (.int c_186), .val (.ref b274), .val (.ref wR), .val (.int (0 : Int32)), .val (.int (0 : Int32)), .val (.int (0 : Int32))] [(.int (bi (([c_183, c_184, c_185] : List Int32) = ([(71 : Int32), (69 : Int32), (84 : Int32)] : List Int32))))])) _
            refine XS.iload X330.here hx rfl (hb hby at_305) rfl ?_
            show Steps p.tables e below (T330.setTop (mkF m 307 #[.val (.int p0), .val (.int p1), .val (.int p2), .val (.int p3), .val (.int p4), .val (.int (0 : Int32)), .val (.int (3 : Int32)), .val (.int c_183), .val (.int c_184), .val (.int c_185), .val (.int c_186), .val (.ref b274), .val (.ref wR), .val (.int (0 : Int32)), .val (.int (0 : Int32)), .val (.int (0 : Int32))] [(.int (0 : Int32)), (.int (bi (([c_183, c_184, c_185] : List Int32) = ([(71 : Int32), (69 : Int32), (84 : Int32)] : List Int32))))])) _
            refine XS.icmpNo X330.here hx rfl (hb hby at_307) rfl (teq ((bi_f (by simp [hc308])) : (bi (([c_183, c_184, c_185] : List Int32) = ([(71 : Int32), (69 : Int32), (84 : Int32)] : List Int32))) = (0 : Int32))).2 ?_
            show Steps p.tables e below (T330.setTop (mkF m 310 #[.val (.int p0), .val (.int p1), .val (.int p2), .val (.int p3), .val (.int p4), .val (.int (0 : Int32)), .val (.int (3 : Int32)), .val (.int c_183), .val (.int c_184), .val (.int c_185), .val (.int c_186), .val (.ref b274), .val (.ref wR), .val (.int (0 : Int32)), .val (.int (0 : Int32)), .val (.int (0 : Int32))] [])) _
            refine XS.iconst X330.here hx rfl (hb hby at_310) ?_
            show Steps p.tables e below (T330.setTop (mkF m 311 #[.val (.int p0), .val (.int p1), .val (.int p2), .val (.int p3), .val (.int p4), .val (.int (0 : Int32)), .val (.int (3 : Int32)), .val (.int c_183), .val (.int c_184), .val (.int c_185), .val (.int c_186), .val (.ref b274), .val (.ref wR), .val (.int (0 : Int32)), .val (.int (0 : Int32)), .val (.int (0 : Int32))] [(.int (1 : Int32))])) _
            refine XS.goto X330.here hx rfl (pc0 := 311) (pc' := 315) rfl (hb hby at_311) (by decide) (by decide) ?_
            show Steps p.tables e below (T330.setTop (mkF m 315 #[.val (.int p0), .val (.int p1), .val (.int p2), .val (.int p3), .val (.int p4), .val (.int (0 : Int32)), .val (.int (3 : Int32)), .val (.int c_183), .val (.int c_184), .val (.int c_185), .val (.int c_186), .val (.ref b274), .val (.ref wR), .val (.int (0 : Int32)), .val (.int (0 : Int32)), .val (.int (0 : Int32))] [(.int (1 : Int32))])) _
            exact retN X330 hx (t := .boolean) Bd.returns (by simp) (hb hby at_315) hr
          · show Qrm0 Z p0 p1 p2 p3 p4 wF wR G1 h0 n0 _ T330.heap _
            exact ⟨rfl, (fun y hy => Nat.le_trans Z0 (N330 y hy)), KC334⟩
      · have Xo335 : Ext Z.heap T294.heap := own_extT X00 (own_ext KC300)
        have Fc336 := (own_staK (((((H0.ext E274).ext E278).wr W283).wr W287).wr W291) K294 (allS ⟨_, Fc295⟩ all0))
        have Fc337 := (own_staK Fc298 K294 (allS ⟨_, Fc295⟩ all0))
        have z339 := congrArg Array.size e304
        have Fc340 := ((((((H3.ext E274).ext E278).wr W283).wr W287).wr W291).keep K294)
        obtain ⟨cq338, kq338, qa338, qb338, qc338⟩ := isOf hZ e304 Fc340
        obtain ⟨_, _, ⟨T338, L338, k338, n338⟩, -, Y338, hY338, gY338, ⟨Lc338, hQ338, l338, y338, z338⟩, st338⟩ := X304.virtualBackS hx (y := (⟨"com/example/task_relay/taskrelay/Scope", "allows", "(Ljava/lang/String;)Z"⟩ : MethodName)) (z := (⟨"com/example/task_relay/taskrelay/Scope", "allows", "(Ljava/lang/String;)Z"⟩ : MethodName)) hown (mvT hZ (hw _ (List.mem_of_getElem? (i := 15) rfl))) (mvT hZ (hw _ (List.mem_of_getElem? (i := 16) rfl))) (notFace_of_selects (args := #[]) (mvT hZ (hw _ (List.mem_of_getElem? (i := 18) rfl)))) (mvT hZ (hw _ (List.mem_of_getElem? (i := 18) rfl))) (mvT hZ (hw _ (List.mem_of_getElem? (i := 17) rfl))) (by decide) (backOfI (W := 0) (rmar3 l Z a0 hw [] wR b274 wF G1 bv294 kb294 c_183 c_184 c_185 T294.heap h0.size (by omega) Fc336 Fc337 (hG1 : ¬ (G1 = (0 : Int32))) (hh58 : Jvm.Lit.constHeld Z "com/example/task_relay/taskrelay/Scope" 58) (hh60 : Jvm.Lit.constHeld Z "com/example/task_relay/taskrelay/Scope" 60) (Xo335 : Ext Z.heap T294.heap) (hcw : Jvm.Lit.compactW.before a0 Z = true) (hne : ¬ (wR = wF)) P294E P294C P294V P294B (P183_0 : ¬ (c_183 < 0) ∧ ¬ ((255 : Int32) < c_183)) (P184_0 : ¬ (c_184 < 0) ∧ ¬ ((255 : Int32) < c_184)) (P185_0 : ¬ (c_185 < 0) ∧ ¬ ((255 : Int32) < c_185))) hZ (hw _ (List.mem_of_getElem? (i := 19) rfl)) (hw _ (List.mem_of_getElem? (i := 13) rfl)) (by decide) (by decide)) qa338 qc338 (g := (mkF m 302 #[.val (.int p0), .val (.int p1), .val (.int p2), .val (.int p3), .val (.int p4), .val (.int (0 : Int32)), .val (.int (3 : Int32)), .val (.int c_183), .val (.int c_184), .val (.int c_185), .val (.int c_186), .val (.ref b274), .val (.ref wR), .val (.int (0 : Int32)), .val (.int (0 : Int32)), .val (.int (0 : Int32))] [(.ref b274), (.ref wR)])) rfl (by rw [hml]; rfl) (Steps.refl _) (argsL := [(.ref b274)]) (rest := []) (lenOf pd_2 rfl) rfl (by show 2 * 0 + _ ≤ _; exact Nat.le_of_eq rfl) (hb hby at_302) (fun _ Hw => ⟨rfl, e304, (by decide : 3 + 4 ≤ _), (by decide : 10 + 36 ≤ _), own_IBw hI Hw⟩)
        dsimp only [Pt.U, Pt.locs, Pt.cells, Pt.slots] at Y338 hY338 gY338 l338 y338 z338 st338 hQ338
        subst l338 y338 z338
        obtain ⟨X338, hS338, hZ338, hw338⟩ := rebS (s := s) (vm0 := s.vm) hS0 (by omega : h0.size ≤ T304.heap.size) Y338 hY338 gY338 hZ hown
        obtain ⟨rfl, N338q, K338⟩ := hQ338
        have N338 := Fr.app N294 N338q
        have z341 := K338.1
        have KC342 : Keep h0 T338.heap [] := KC300.trans K338 all0
        obtain ⟨fs, hr, hrun, hended, rE1, rE2, rE3, rE4⟩ := leaveW (s := s) (vm₁ := T338.vm) X338 hS338 (by omega : T338.heap.size ≤ T338.heap.size) (v := some (.int (1 : Int32))) (fun h => by rw [Bd.returns] at h; cases h)
        refine ⟨_, _, pre305 _ ?_, hrun, hended, _, _, rfl, ?_, rE1, rE2, rE3, rE4.mono (by decide) (by decide)⟩
        · show Steps p.tables e below (T304.setTop (mkF m 211 #[.val (.int p0), .val (.int p1), .val (.int p2), .val (.int p3), .val (.int p4), .val (.int (0 : Int32)), .val (.int (3 : Int32)), .val (.int c_183), .val (.int c_184), .val (.int c_185), .val (.int c_186), .val (.ref b274), .val (.ref wR), .unset, .unset, .unset] [(.int (71 : Int32)), (.int c_183)])) _
          refine XS.icmpYes X304.here hx rfl (pc0 := 211) (pc' := 232) rfl (hb hby at_211) rfl (feq (hc306 : ¬ (c_183 = (71 : Int32)))).2 (by decide) (by decide) ?_
          show Steps p.tables e below (T304.setTop (mkF m 232 #[.val (.int p0), .val (.int p1), .val (.int p2), .val (.int p3), .val (.int p4), .val (.int (0 : Int32)), .val (.int (3 : Int32)), .val (.int c_183), .val (.int c_184), .val (.int c_185), .val (.int c_186), .val (.ref b274), .val (.ref wR), .unset, .unset, .unset] [])) _
          refine XS.iconst X304.here hx rfl (hb hby at_232) ?_
          show Steps p.tables e below (T304.setTop (mkF m 233 #[.val (.int p0), .val (.int p1), .val (.int p2), .val (.int p3), .val (.int p4), .val (.int (0 : Int32)), .val (.int (3 : Int32)), .val (.int c_183), .val (.int c_184), .val (.int c_185), .val (.int c_186), .val (.ref b274), .val (.ref wR), .unset, .unset, .unset] [(.int (0 : Int32))])) _
          refine XS.istore X304.here hx rfl (hb hby at_233) rfl (l' := #[.val (.int p0), .val (.int p1), .val (.int p2), .val (.int p3), .val (.int p4), .val (.int (0 : Int32)), .val (.int (3 : Int32)), .val (.int c_183), .val (.int c_184), .val (.int c_185), .val (.int c_186), .val (.ref b274), .val (.ref wR), .val (.int (0 : Int32)), .unset, .unset]) rfl ?_
          show Steps p.tables e below (T304.setTop (mkF m 235 #[.val (.int p0), .val (.int p1), .val (.int p2), .val (.int p3), .val (.int p4), .val (.int (0 : Int32)), .val (.int (3 : Int32)), .val (.int c_183), .val (.int c_184), .val (.int c_185), .val (.int c_186), .val (.ref b274), .val (.ref wR), .val (.int (0 : Int32)), .unset, .unset] [])) _
          refine XS.iload X304.here hx rfl (hb hby at_235) rfl ?_
          show Steps p.tables e below (T304.setTop (mkF m 237 #[.val (.int p0), .val (.int p1), .val (.int p2), .val (.int p3), .val (.int p4), .val (.int (0 : Int32)), .val (.int (3 : Int32)), .val (.int c_183), .val (.int c_184), .val (.int c_185), .val (.int c_186), .val (.ref b274), .val (.ref wR), .val (.int (0 : Int32)), .unset, .unset] [(.int (3 : Int32))])) _
          refine XS.iconst X304.here hx rfl (hb hby at_237) ?_
          show Steps p.tables e below (T304.setTop (mkF m 238 #[.val (.int p0), .val (.int p1), .val (.int p2), .val (.int p3), .val (.int p4), .val (.int (0 : Int32)), .val (.int (3 : Int32)), .val (.int c_183), .val (.int c_184), .val (.int c_185), .val (.int c_186), .val (.ref b274), .val (.ref wR), .val (.int (0 : Int32)), .unset, .unset] [(.int (4 : Int32)), (.int (3 : Int32))])) _
          refine XS.icmpYes X304.here hx rfl (pc0 := 238) (pc' := 273) rfl (hb hby at_238) rfl (feq (by decide : ¬ ((3 : Int32) = (4 : Int32)))).2 (by decide) (by decide) ?_
          show Steps p.tables e below (T304.setTop (mkF m 273 #[.val (.int p0), .val (.int p1), .val (.int p2), .val (.int p3), .val (.int p4), .val (.int (0 : Int32)), .val (.int (3 : Int32)), .val (.int c_183), .val (.int c_184), .val (.int c_185), .val (.int c_186), .val (.ref b274), .val (.ref wR), .val (.int (0 : Int32)), .unset, .unset] [])) _
          refine XS.iconst X304.here hx rfl (hb hby at_273) ?_
          show Steps p.tables e below (T304.setTop (mkF m 274 #[.val (.int p0), .val (.int p1), .val (.int p2), .val (.int p3), .val (.int p4), .val (.int (0 : Int32)), .val (.int (3 : Int32)), .val (.int c_183), .val (.int c_184), .val (.int c_185), .val (.int c_186), .val (.ref b274), .val (.ref wR), .val (.int (0 : Int32)), .unset, .unset] [(.int (0 : Int32))])) _
          refine XS.istore X304.here hx rfl (hb hby at_274) rfl (l' := #[.val (.int p0), .val (.int p1), .val (.int p2), .val (.int p3), .val (.int p4), .val (.int (0 : Int32)), .val (.int (3 : Int32)), .val (.int c_183), .val (.int c_184), .val (.int c_185), .val (.int c_186), .val (.ref b274), .val (.ref wR), .val (.int (0 : Int32)), .val (.int (0 : Int32)), .unset]) rfl ?_
          show Steps p.tables e below (T304.setTop (mkF m 276 #[.val (.int p0), .val (.int p1), .val (.int p2), .val (.int p3), .val (.int p4), .val (.int (0 : Int32)), .val (.int (3 : Int32)), .val (.int c_183), .val (.int c_184), .val (.int c_185), .val (.int c_186), .val (.ref b274), .val (.ref wR), .val (.int (0 : Int32)), .val (.int (0 : Int32)), .unset] [])) _
          refine XS.iload X304.here hx rfl (hb hby at_276) rfl ?_
          show Steps p.tables e below (T304.setTop (mkF m 278 #[.val (.int p0), .val (.int p1), .val (.int p2), .val (.int p3), .val (.int p4), .val (.int (0 : Int32)), .val (.int (3 : Int32)), .val (.int c_183), .val (.int c_184), .val (.int c_185), .val (.int c_186), .val (.ref b274), .val (.ref wR), .val (.int (0 : Int32)), .val (.int (0 : Int32)), .unset] [(.int (0 : Int32))])) _
          refine XS.ifNo X304.here hx rfl (hb hby at_278) rfl ((if0 _ _).trans (teq (by decide : (0 : Int32) = (0 : Int32))).2) ?_
          show Steps p.tables e below (T304.setTop (mkF m 281 #[.val (.int p0), .val (.int p1), .val (.int p2), .val (.int p3), .val (.int p4), .val (.int (0 : Int32)), .val (.int (3 : Int32)), .val (.int c_183), .val (.int c_184), .val (.int c_185), .val (.int c_186), .val (.ref b274), .val (.ref wR), .val (.int (0 : Int32)), .val (.int (0 : Int32)), .unset] [])) _
          refine XS.iload X304.here hx rfl (hb hby at_281) rfl ?_
          show Steps p.tables e below (T304.setTop (mkF m 283 #[.val (.int p0), .val (.int p1), .val (.int p2), .val (.int p3), .val (.int p4), .val (.int (0 : Int32)), .val (.int (3 : Int32)), .val (.int c_183), .val (.int c_184), .val (.int c_185), .val (.int c_186), .val (.ref b274), .val (.ref wR), .val (.int (0 : Int32)), .val (.int (0 : Int32)), .unset] [(.int (0 : Int32))])) _
          refine XS.ifNo X304.here hx rfl (hb hby at_283) rfl ((if0 _ _).trans (teq (by decide : (0 : Int32) = (0 : Int32))).2) ?_
          show Steps p.tables e below (T304.setTop (mkF m 286 #[.val (.int p0), .val (.int p1), .val (.int p2), .val (.int p3), .val (.int p4), .val (.int (0 : Int32)), .val (.int (3 : Int32)), .val (.int c_183), .val (.int c_184), .val (.int c_185), .val (.int c_186), .val (.ref b274), .val (.ref wR), .val (.int (0 : Int32)), .val (.int (0 : Int32)), .unset] [])) _
          refine XS.iload X304.here hx rfl (hb hby at_286) rfl ?_
          show Steps p.tables e below (T304.setTop (mkF m 288 #[.val (.int p0), .val (.int p1), .val (.int p2), .val (.int p3), .val (.int p4), .val (.int (0 : Int32)), .val (.int (3 : Int32)), .val (.int c_183), .val (.int c_184), .val (.int c_185), .val (.int c_186), .val (.ref b274), .val (.ref wR), .val (.int (0 : Int32)), .val (.int (0 : Int32)), .unset] [(.int (0 : Int32))])) _
          refine XS.ifYes X304.here hx rfl (pc0 := 288) (pc' := 295) rfl (hb hby at_288) rfl ((if0 _ _).trans (teq (by decide : (0 : Int32) = (0 : Int32))).1) (by decide) (by decide) ?_
          show Steps p.tables e below (T304.setTop (mkF m 295 #[.val (.int p0), .val (.int p1), .val (.int p2), .val (.int p3), .val (.int p4), .val (.int (0 : Int32)), .val (.int (3 : Int32)), .val (.int c_183), .val (.int c_184), .val (.int c_185), .val (.int c_186), .val (.ref b274), .val (.ref wR), .val (.int (0 : Int32)), .val (.int (0 : Int32)), .unset] [])) _
          refine XS.iconst X304.here hx rfl (hb hby at_295) ?_
          show Steps p.tables e below (T304.setTop (mkF m 296 #[.val (.int p0), .val (.int p1), .val (.int p2), .val (.int p3), .val (.int p4), .val (.int (0 : Int32)), .val (.int (3 : Int32)), .val (.int c_183), .val (.int c_184), .val (.int c_185), .val (.int c_186), .val (.ref b274), .val (.ref wR), .val (.int (0 : Int32)), .val (.int (0 : Int32)), .unset] [(.int (0 : Int32))])) _
          refine XS.istore X304.here hx rfl (hb hby at_296) rfl (l' := #[.val (.int p0), .val (.int p1), .val (.int p2), .val (.int p3), .val (.int p4), .val (.int (0 : Int32)), .val (.int (3 : Int32)), .val (.int c_183), .val (.int c_184), .val (.int c_185), .val (.int c_186), .val (.ref b274), .val (.ref wR), .val (.int (0 : Int32)), .val (.int (0 : Int32)), .val (.int (0 : Int32))]) rfl ?_
          show Steps p.tables e below (T304.setTop (mkF m 298 #[.val (.int p0), .val (.int p1), .val (.int p2), .val (.int p3), .val (.int p4), .val (.int (0 : Int32)), .val (.int (3 : Int32)), .val (.int c_183), .val (.int c_184), .val (.int c_185), .val (.int c_186), .val (.ref b274), .val (.ref wR), .val (.int (0 : Int32)), .val (.int (0 : Int32)), .val (.int (0 : Int32))] [])) _
          refine XS.aload X304.here hx rfl (hb hby at_298) rfl rfl ?_
          show Steps p.tables e below (T304.setTop (mkF m 300 #[.val (.int p0), .val (.int p1), .val (.int p2), .val (.int p3), .val (.int p4), .val (.int (0 : Int32)), .val (.int (3 : Int32)), .val (.int c_183), .val (.int c_184), .val (.int c_185), .val (.int c_186), .val (.ref b274), .val (.ref wR), .val (.int (0 : Int32)), .val (.int (0 : Int32)), .val (.int (0 : Int32))] [(.ref wR)])) _
          refine XS.aload X304.here hx rfl (hb hby at_300) rfl rfl ?_
          show Steps p.tables e below (T304.setTop (mkF m 302 #[.val (.int p0), .val (.int p1), .val (.int p2), .val (.int p3), .val (.int p4), .val (.int (0 : Int32)), .val (.int (3 : Int32)), .val (.int c_183), .val (.int c_184), .val (.int c_185), .val (.int c_186), .val (.ref b274), .val (.ref wR), .val (.int (0 : Int32)), .val (.int (0 : Int32)), .val (.int (0 : Int32))] [(.ref b274), (.ref wR)])) _
          refine st338.trans ?_
          show Steps p.tables e below (T338.setTop (mkF m 305 #[.val (.int p0), .val (.int p1), .val (.int p2), .val (.int p3), .val (.int p4), .val (.int (0 : Int32)), .val (.int (3 : Int32)), .val (.int c_183), .val (.int c_184), .val (.int c_185), .val (.int c_186), .val (.ref b274), .val (.ref wR), .val (.int (0 : Int32)), .val (.int (0 : Int32)), .val (.int (0 : Int32))] [(.int (bi (([c_183, c_184, c_185] : List Int32) = ([(71 : Int32), (69 : Int32), (84 : Int32)] : List Int32))))])) _
          refine XS.iload X338.here hx rfl (hb hby at_305) rfl ?_
          show Steps p.tables e below (T338.setTop (mkF m 307 #[.val (.int p0), .val (.int p1), .val (.int p2), .val (.int p3), .val (.int p4), .val (.int (0 : Int32)), .val (.int (3 : Int32)), .val (.int c_183), .val (.int c_184), .val (.int c_185), .val (.int c_186), .val (.ref b274), .val (.ref wR), .val (.int (0 : Int32)), .val (.int (0 : Int32)), .val (.int (0 : Int32))] [(.int (0 : Int32)), (.int (bi (([c_183, c_184, c_185] : List Int32) = ([(71 : Int32), (69 : Int32), (84 : Int32)] : List Int32))))])) _
          refine XS.icmpNo X338.here hx rfl (hb hby at_307) rfl (teq ((bi_f (by simp [hc306])) : (bi (([c_183, c_184, c_185] : List Int32) = ([(71 : Int32), (69 : Int32), (84 : Int32)] : List Int32))) = (0 : Int32))).2 ?_
          show Steps p.tables e below (T338.setTop (mkF m 310 #[.val (.int p0), .val (.int p1), .val (.int p2), .val (.int p3), .val (.int p4), .val (.int (0 : Int32)), .val (.int (3 : Int32)), .val (.int c_183), .val (.int c_184), .val (.int c_185), .val (.int c_186), .val (.ref b274), .val (.ref wR), .val (.int (0 : Int32)), .val (.int (0 : Int32)), .val (.int (0 : Int32))] [])) _
          refine XS.iconst X338.here hx rfl (hb hby at_310) ?_
          show Steps p.tables e below (T338.setTop (mkF m 311 #[.val (.int p0), .val (.int p1), .val (.int p2), .val (.int p3), .val (.int p4), .val (.int (0 : Int32)), .val (.int (3 : Int32)), .val (.int c_183), .val (.int c_184), .val (.int c_185), .val (.int c_186), .val (.ref b274), .val (.ref wR), .val (.int (0 : Int32)), .val (.int (0 : Int32)), .val (.int (0 : Int32))] [(.int (1 : Int32))])) _
          refine XS.goto X338.here hx rfl (pc0 := 311) (pc' := 315) rfl (hb hby at_311) (by decide) (by decide) ?_
          show Steps p.tables e below (T338.setTop (mkF m 315 #[.val (.int p0), .val (.int p1), .val (.int p2), .val (.int p3), .val (.int p4), .val (.int (0 : Int32)), .val (.int (3 : Int32)), .val (.int c_183), .val (.int c_184), .val (.int c_185), .val (.int c_186), .val (.ref b274), .val (.ref wR), .val (.int (0 : Int32)), .val (.int (0 : Int32)), .val (.int (0 : Int32))] [(.int (1 : Int32))])) _
          exact retN X338 hx (t := .boolean) Bd.returns (by simp) (hb hby at_315) hr
        · show Qrm0 Z p0 p1 p2 p3 p4 wF wR G1 h0 n0 _ T338.heap _
          exact ⟨rfl, (fun y hy => Nat.le_trans Z0 (N338 y hy)), KC342⟩
    · have pre343 : ∀ t, Steps p.tables e below (T186.setTop (mkF m 48 #[.val (.int p0), .val (.int p1), .val (.int p2), .val (.int p3), .val (.int p4), .val (.int (0 : Int32)), .val (.int (4 : Int32)), .val (.int c_183), .val (.int c_184), .val (.int c_185), .val (.int c_186), .unset, .unset, .unset, .unset, .unset] [])) t → Steps p.tables e below (s₁.setTop (entryFrame m #[(.int p0), (.int p1), (.int p2), (.int p3), (.int p4)] maxLocals)) t := fun t k => pre187 t (by rw [hv188]; exact k)
      obtain ⟨T344, h344, X344, e344, E344, A344, D344, -, st344⟩ := newO X186 hx hZ hown (hw _ (List.mem_of_getElem? (i := 38) rfl)) (hw _ (List.mem_of_getElem? (i := 6) rfl)) (hw _ (List.mem_of_getElem? (i := 5) rfl)) e186 (g := (mkF m 153 #[.val (.int p0), .val (.int p1), .val (.int p2), .val (.int p3), .val (.int p4), .val (.int (0 : Int32)), .val (.int (4 : Int32)), .val (.int c_183), .val (.int c_184), .val (.int c_185), .val (.int c_186), .unset, .unset, .unset, .unset, .unset] [])) rfl (hb hby at_153) (by decide) (by decide)
      obtain ⟨b344, g344⟩ : ∃ z, z = h0.size := ⟨_, rfl⟩
      rw [← g344] at A344 D344 st344
      have z345 := E344.1
      have KC346 : Keep h0 h344 [] := KC0.ext E344
      have z347 : @LT.lt Nat _ b344 (Array.size h344) := A344.lt
      have F344_value : Fld Z h344 b344 "java/lang/String" "value" "[B" .null := D344 (Or.inr (hw _ (List.mem_of_getElem? (i := 8) rfl))) (ty := (.array .byte)) (by decide)
      have F344_coder : Fld Z h344 b344 "java/lang/String" "coder" "B" (.int (0 : Int32)) := D344 (Or.inr (hw _ (List.mem_of_getElem? (i := 9) rfl))) (ty := .byte) (by decide)
      obtain ⟨T348, h348, k348, X348, e348, E348, A348, st348⟩ := newP X344 hx hZ (hw _ (List.mem_of_getElem? (i := 39) rfl)) e344 (g := (mkF m 158 #[.val (.int p0), .val (.int p1), .val (.int p2), .val (.int p3), .val (.int p4), .val (.int (0 : Int32)), .val (.int (4 : Int32)), .val (.int c_183), .val (.int c_184), .val (.int c_185), .val (.int c_186), .unset, .unset, .unset, .unset, .unset] [(.int (4 : Int32)), (.ref b344), (.ref b344)])) rfl (hb hby at_158) rfl (by decide) (cap := 4) (by decide) (by decide) (by decide) (by decide)
      obtain ⟨b348, g348⟩ : ∃ z, z = h344.size := ⟨_, rfl⟩
      rw [← g348] at A348 st348
      have z349 := E348.1
      have KC350 : Keep h0 h348 [] := KC346.ext E348
      have V348 : Arv Z h348 b348 k348 .char (4 : Int32) [(.int (0 : Int32)), (.int (0 : Int32)), (.int (0 : Int32)), (.int (0 : Int32))] (.int (0 : Int32)) := (Arv.new A348 (by decide)).pad (pad_rep [] (.int (0 : Int32)) 4)
      have z351 : @LT.lt Nat _ b348 (Array.size h348) := V348.lt
      obtain ⟨cl352, Ar352, q352, S352, N352', H352, G352⟩ := id V348
      have hin352 : ¬ ((0 : Int32) < 0 ∨ cl352.slots.size ≤ ((0 : Int32)).toNatClampNeg) := inb_of S352 ⟨by decide, by decide⟩
      obtain ⟨T353, h353, X353, e353, W353, st353⟩ := stC X348 hx hZ e348 Ar352 (j := (0 : Int32)) hin352 (g := (mkF m 164 #[.val (.int p0), .val (.int p1), .val (.int p2), .val (.int p3), .val (.int p4), .val (.int (0 : Int32)), .val (.int (4 : Int32)), .val (.int c_183), .val (.int c_184), .val (.int c_185), .val (.int c_186), .unset, .unset, .unset, .unset, .unset] [(.int c_183), (.int (0 : Int32)), (.ref b348), (.ref b348), (.ref b344), (.ref b344)])) rfl rfl (hb hby at_164)
      have z354 := W353.size
      have N353 := Fr.snoc X353 N186 (by omega : h0.size ≤ b348)
      have KC355 : Keep h0 h353 [] := KC350.wr W353 (Or.inr (by omega))
      have V353 : Arv Z h353 b348 k348 .char (4 : Int32) [(.int (nar .char c_183)), (.int (0 : Int32)), (.int (0 : Int32)), (.int (0 : Int32))] (.int (0 : Int32)) := Arv.set Ar352 q352 S352 N352' H352 G352 (fits_nar_char _) W353 0 rfl (Nat.le_of_ble_eq_true rfl)
      rw [P183_1] at V353
      obtain ⟨cl356, Ar356, q356, S356, N356', H356, G356⟩ := id V353
      have hin356 : ¬ ((1 : Int32) < 0 ∨ cl356.slots.size ≤ ((1 : Int32)).toNatClampNeg) := inb_of S356 ⟨by decide, by decide⟩
      obtain ⟨T357, h357, X357, e357, W357, st357⟩ := stC X353 hx hZ e353 Ar356 (j := (1 : Int32)) hin356 (g := (mkF m 169 #[.val (.int p0), .val (.int p1), .val (.int p2), .val (.int p3), .val (.int p4), .val (.int (0 : Int32)), .val (.int (4 : Int32)), .val (.int c_183), .val (.int c_184), .val (.int c_185), .val (.int c_186), .unset, .unset, .unset, .unset, .unset] [(.int c_184), (.int (1 : Int32)), (.ref b348), (.ref b348), (.ref b344), (.ref b344)])) rfl rfl (hb hby at_169)
      have z358 := W357.size
      have N357 := Fr.snoc X357 N353 (by omega : h0.size ≤ b348)
      have KC359 : Keep h0 h357 [] := KC355.wr W357 (Or.inr (by omega))
      have V357 : Arv Z h357 b348 k348 .char (4 : Int32) [(.int c_183), (.int (nar .char c_184)), (.int (0 : Int32)), (.int (0 : Int32))] (.int (0 : Int32)) := Arv.set Ar356 q356 S356 N356' H356 G356 (fits_nar_char _) W357 1 rfl (Nat.le_of_ble_eq_true rfl)
      rw [P184_1] at V357
      obtain ⟨cl360, Ar360, q360, S360, N360', H360, G360⟩ := id V357
      have hin360 : ¬ ((2 : Int32) < 0 ∨ cl360.slots.size ≤ ((2 : Int32)).toNatClampNeg) := inb_of S360 ⟨by decide, by decide⟩
      obtain ⟨T361, h361, X361, e361, W361, st361⟩ := stC X357 hx hZ e357 Ar360 (j := (2 : Int32)) hin360 (g := (mkF m 174 #[.val (.int p0), .val (.int p1), .val (.int p2), .val (.int p3), .val (.int p4), .val (.int (0 : Int32)), .val (.int (4 : Int32)), .val (.int c_183), .val (.int c_184), .val (.int c_185), .val (.int c_186), .unset, .unset, .unset, .unset, .unset] [(.int c_185), (.int (2 : Int32)), (.ref b348), (.ref b348), (.ref b344), (.ref b344)])) rfl rfl (hb hby at_174)
      have z362 := W361.size
      have N361 := Fr.snoc X361 N357 (by omega : h0.size ≤ b348)
      have KC363 : Keep h0 h361 [] := KC359.wr W361 (Or.inr (by omega))
      have V361 : Arv Z h361 b348 k348 .char (4 : Int32) [(.int c_183), (.int c_184), (.int (nar .char c_185)), (.int (0 : Int32))] (.int (0 : Int32)) := Arv.set Ar360 q360 S360 N360' H360 G360 (fits_nar_char _) W361 2 rfl (Nat.le_of_ble_eq_true rfl)
      rw [P185_1] at V361
      obtain ⟨cl364, Ar364, q364, S364, N364', H364, G364⟩ := id V361
      have hin364 : ¬ ((3 : Int32) < 0 ∨ cl364.slots.size ≤ ((3 : Int32)).toNatClampNeg) := inb_of S364 ⟨by decide, by decide⟩
      obtain ⟨T365, h365, X365, e365, W365, st365⟩ := stC X361 hx hZ e361 Ar364 (j := (3 : Int32)) hin364 (g := (mkF m 179 #[.val (.int p0), .val (.int p1), .val (.int p2), .val (.int p3), .val (.int p4), .val (.int (0 : Int32)), .val (.int (4 : Int32)), .val (.int c_183), .val (.int c_184), .val (.int c_185), .val (.int c_186), .unset, .unset, .unset, .unset, .unset] [(.int c_186), (.int (3 : Int32)), (.ref b348), (.ref b348), (.ref b344), (.ref b344)])) rfl rfl (hb hby at_179)
      have z366 := W365.size
      have N365 := Fr.snoc X365 N361 (by omega : h0.size ≤ b348)
      have KC367 : Keep h0 h365 [] := KC363.wr W365 (Or.inr (by omega))
      have V365 : Arv Z h365 b348 k348 .char (4 : Int32) [(.int c_183), (.int c_184), (.int c_185), (.int (nar .char c_186))] (.int (0 : Int32)) := Arv.set Ar364 q364 S364 N364' H364 G364 (fits_nar_char _) W365 3 rfl (Nat.le_of_ble_eq_true rfl)
      rw [P186_1] at V365
      have Fc369 := (((((A344.ext E348).wr W353).wr W357).wr W361).wr W365)
      have Fc370 := (((((F344_value.ext E348).other W353 (Or.inl (by omega : @Ne Nat b344 b348))).other W357 (Or.inl (by omega : @Ne Nat b344 b348))).other W361 (Or.inl (by omega : @Ne Nat b344 b348))).other W365 (Or.inl (by omega : @Ne Nat b344 b348)))
      have Fc371 := (((((F344_coder.ext E348).other W353 (Or.inl (by omega : @Ne Nat b344 b348))).other W357 (Or.inl (by omega : @Ne Nat b344 b348))).other W361 (Or.inl (by omega : @Ne Nat b344 b348))).other W365 (Or.inl (by omega : @Ne Nat b344 b348)))
      have Fc372 := ((((((H4.ext E344).ext E348).wr W353).wr W357).wr W361).wr W365)
      have hp368 : ∀ c ∈ ([c_183, c_184, c_185, c_186] : List Int32), ¬ c < 0 ∧ ¬ (255 : Int32) < c := by
        intro c hc
        simp only [List.mem_cons, List.not_mem_nil, or_false] at hc
        rcases hc with rfl | rfl | rfl | rfl
        · exact P183_0
        · exact P184_0
        · exact P185_0
        · exact P186_0
      obtain ⟨_, _, ⟨T368, L368, k368, n368⟩, -, X368, ⟨Lc368, hQ368, l368, y368, z368⟩, st368⟩ := X365.specialBack hx (y := (⟨"java/lang/String", "<init>", "([C)V"⟩ : MethodName)) rfl hown (mvT hZ (hw _ (List.mem_of_getElem? (i := 40) rfl))) (mvT hZ (hw _ (List.mem_of_getElem? (i := 41) rfl))) (mvT hZ (hw _ (List.mem_of_getElem? (i := 42) rfl))) (by decide) (StrChars.Road.backV (W := 1) hZ (fun d hd => hw d (own_words d hd)) (kI := 4) (hw _ (List.mem_of_getElem? (i := 6) rfl)) (cs := ([c_183, c_184, c_185, c_186] : List Int32)) (bs := (([c_183, c_184, c_185, c_186] : List Int32)).map (fun c => c.toInt8.toInt32)) (n := 4) (by omega : h0.size ≤ b344) (by omega : h0.size ≤ h365.size) Fc369 Fc370 Fc371 V365 Fc372 hG1 rfl rfl (by decide) (by decide) hp368 rfl (by decide) (by decide)) (g := (mkF m 180 #[.val (.int p0), .val (.int p1), .val (.int p2), .val (.int p3), .val (.int p4), .val (.int (0 : Int32)), .val (.int (4 : Int32)), .val (.int c_183), .val (.int c_184), .val (.int c_185), .val (.int c_186), .unset, .unset, .unset, .unset, .unset] [(.ref b348), (.ref b344), (.ref b344)])) rfl (by rw [hml]; rfl) (Steps.refl _) (a := b344) (argsL := [(.ref b348)]) (rest := [(.ref b344)]) (lenOf pd_3 rfl) rfl (by show 2 * 0 + _ ≤ _; exact Nat.le_of_eq rfl) (hb hby at_180) (fun _ _ => ⟨rfl, e365, (by decide : 2 + 1 ≤ _), (by decide : 8 + 4 ≤ _)⟩)
      dsimp only [Pt.U, Pt.locs, Pt.cells, Pt.slots] at X368 l368 y368 z368 st368 hQ368
      subst l368 y368 z368
      obtain ⟨rfl, N368q, K368, P368E, P368C, bv368, kb368, u368a, u368b, u368c, P368V, P368A⟩ := hQ368
      have N368 := Fr.app N365 N368q
      have z373 := K368.1
      have KC374 : Keep h0 T368.heap [] := KC367.trans K368 (allS (Or.inr (by omega)) all0)
      have P368B : Arv Z T368.heap bv368 kb368 .byte (4 : Int32) [(.int (c_183).toInt8.toInt32), (.int (c_184).toInt8.toInt32), (.int (c_185).toInt8.toInt32), (.int (c_186).toInt8.toInt32)] (.int (0 : Int32)) := P368A
      have z375 : @LT.lt Nat _ b344 (Array.size T368.heap) := P368E.lt
      have z376 : @LT.lt Nat _ bv368 (Array.size T368.heap) := P368A.lt
      have Fc377 := (own_staK ((((((H1.ext E344).ext E348).wr W353).wr W357).wr W361).wr W365) K368 (allS ⟨_, Fc369⟩ all0))
      obtain ⟨T378, X378, e378, st378⟩ := getS2 X368 hx hZ hown (host := "") (Or.inl (hw _ (List.mem_of_getElem? (i := 12) rfl))) Via.refl rfl Fc377 (g := (mkF m 196 #[.val (.int p0), .val (.int p1), .val (.int p2), .val (.int p3), .val (.int p4), .val (.int (0 : Int32)), .val (.int (4 : Int32)), .val (.int c_183), .val (.int c_184), .val (.int c_185), .val (.int c_186), .val (.ref b344), .unset, .unset, .unset, .unset] [])) rfl (hb hby at_196)
      have pre379 : ∀ t, Steps p.tables e below (T378.setTop (mkF m 245 #[.val (.int p0), .val (.int p1), .val (.int p2), .val (.int p3), .val (.int p4), .val (.int (0 : Int32)), .val (.int (4 : Int32)), .val (.int c_183), .val (.int c_184), .val (.int c_185), .val (.int c_186), .val (.ref b344), .val (.ref wR), .val (.int (0 : Int32)), .unset, .unset] [(.int (72 : Int32)), (.int c_183)])) t → Steps p.tables e below (s₁.setTop (entryFrame m #[(.int p0), (.int p1), (.int p2), (.int p3), (.int p4)] maxLocals)) t := fun t k => by
        refine pre343 _ ?_
        show Steps p.tables e below (T186.setTop (mkF m 48 #[.val (.int p0), .val (.int p1), .val (.int p2), .val (.int p3), .val (.int p4), .val (.int (0 : Int32)), .val (.int (4 : Int32)), .val (.int c_183), .val (.int c_184), .val (.int c_185), .val (.int c_186), .unset, .unset, .unset, .unset, .unset] [])) _
        refine XS.iload X186.here hx rfl (hb hby at_48) rfl ?_
        show Steps p.tables e below (T186.setTop (mkF m 50 #[.val (.int p0), .val (.int p1), .val (.int p2), .val (.int p3), .val (.int p4), .val (.int (0 : Int32)), .val (.int (4 : Int32)), .val (.int c_183), .val (.int c_184), .val (.int c_185), .val (.int c_186), .unset, .unset, .unset, .unset, .unset] [(.int (4 : Int32))])) _
        refine XS.ifYes X186.here hx rfl (pc0 := 50) (pc' := 60) rfl (hb hby at_50) rfl ((if0 _ _).trans (feq (by decide : ¬ ((4 : Int32) = (0 : Int32)))).2) (by decide) (by decide) ?_
        show Steps p.tables e below (T186.setTop (mkF m 60 #[.val (.int p0), .val (.int p1), .val (.int p2), .val (.int p3), .val (.int p4), .val (.int (0 : Int32)), .val (.int (4 : Int32)), .val (.int c_183), .val (.int c_184), .val (.int c_185), .val (.int c_186), .unset, .unset, .unset, .unset, .unset] [])) _
        refine XS.iload X186.here hx rfl (hb hby at_60) rfl ?_
        show Steps p.tables e below (T186.setTop (mkF m 62 #[.val (.int p0), .val (.int p1), .val (.int p2), .val (.int p3), .val (.int p4), .val (.int (0 : Int32)), .val (.int (4 : Int32)), .val (.int c_183), .val (.int c_184), .val (.int c_185), .val (.int c_186), .unset, .unset, .unset, .unset, .unset] [(.int (4 : Int32))])) _
        refine XS.iconst X186.here hx rfl (hb hby at_62) ?_
        show Steps p.tables e below (T186.setTop (mkF m 63 #[.val (.int p0), .val (.int p1), .val (.int p2), .val (.int p3), .val (.int p4), .val (.int (0 : Int32)), .val (.int (4 : Int32)), .val (.int c_183), .val (.int c_184), .val (.int c_185), .val (.int c_186), .unset, .unset, .unset, .unset, .unset] [(.int (1 : Int32)), (.int (4 : Int32))])) _
        refine XS.icmpYes X186.here hx rfl (pc0 := 63) (pc' := 86) rfl (hb hby at_63) rfl (feq (by decide : ¬ ((4 : Int32) = (1 : Int32)))).2 (by decide) (by decide) ?_
        show Steps p.tables e below (T186.setTop (mkF m 86 #[.val (.int p0), .val (.int p1), .val (.int p2), .val (.int p3), .val (.int p4), .val (.int (0 : Int32)), .val (.int (4 : Int32)), .val (.int c_183), .val (.int c_184), .val (.int c_185), .val (.int c_186), .unset, .unset, .unset, .unset, .unset] [])) _
        refine XS.iload X186.here hx rfl (hb hby at_86) rfl ?_
        show Steps p.tables e below (T186.setTop (mkF m 88 #[.val (.int p0), .val (.int p1), .val (.int p2), .val (.int p3), .val (.int p4), .val (.int (0 : Int32)), .val (.int (4 : Int32)), .val (.int c_183), .val (.int c_184), .val (.int c_185), .val (.int c_186), .unset, .unset, .unset, .unset, .unset] [(.int (4 : Int32))])) _
        refine XS.iconst X186.here hx rfl (hb hby at_88) ?_
        show Steps p.tables e below (T186.setTop (mkF m 89 #[.val (.int p0), .val (.int p1), .val (.int p2), .val (.int p3), .val (.int p4), .val (.int (0 : Int32)), .val (.int (4 : Int32)), .val (.int c_183), .val (.int c_184), .val (.int c_185), .val (.int c_186), .unset, .unset, .unset, .unset, .unset] [(.int (2 : Int32)), (.int (4 : Int32))])) _
        refine XS.icmpYes X186.here hx rfl (pc0 := 89) (pc' := 117) rfl (hb hby at_89) rfl (feq (by decide : ¬ ((4 : Int32) = (2 : Int32)))).2 (by decide) (by decide) ?_
        show Steps p.tables e below (T186.setTop (mkF m 117 #[.val (.int p0), .val (.int p1), .val (.int p2), .val (.int p3), .val (.int p4), .val (.int (0 : Int32)), .val (.int (4 : Int32)), .val (.int c_183), .val (.int c_184), .val (.int c_185), .val (.int c_186), .unset, .unset, .unset, .unset, .unset] [])) _
        refine XS.iload X186.here hx rfl (hb hby at_117) rfl ?_
        show Steps p.tables e below (T186.setTop (mkF m 119 #[.val (.int p0), .val (.int p1), .val (.int p2), .val (.int p3), .val (.int p4), .val (.int (0 : Int32)), .val (.int (4 : Int32)), .val (.int c_183), .val (.int c_184), .val (.int c_185), .val (.int c_186), .unset, .unset, .unset, .unset, .unset] [(.int (4 : Int32))])) _
        refine XS.iconst X186.here hx rfl (hb hby at_119) ?_
        show Steps p.tables e below (T186.setTop (mkF m 120 #[.val (.int p0), .val (.int p1), .val (.int p2), .val (.int p3), .val (.int p4), .val (.int (0 : Int32)), .val (.int (4 : Int32)), .val (.int c_183), .val (.int c_184), .val (.int c_185), .val (.int c_186), .unset, .unset, .unset, .unset, .unset] [(.int (3 : Int32)), (.int (4 : Int32))])) _
        refine XS.icmpYes X186.here hx rfl (pc0 := 120) (pc' := 153) rfl (hb hby at_120) rfl (feq (by decide : ¬ ((4 : Int32) = (3 : Int32)))).2 (by decide) (by decide) ?_
        show Steps p.tables e below (T186.setTop (mkF m 153 #[.val (.int p0), .val (.int p1), .val (.int p2), .val (.int p3), .val (.int p4), .val (.int (0 : Int32)), .val (.int (4 : Int32)), .val (.int c_183), .val (.int c_184), .val (.int c_185), .val (.int c_186), .unset, .unset, .unset, .unset, .unset] [])) _
        refine st344 _ ?_
        show Steps p.tables e below (T344.setTop (mkF m 156 #[.val (.int p0), .val (.int p1), .val (.int p2), .val (.int p3), .val (.int p4), .val (.int (0 : Int32)), .val (.int (4 : Int32)), .val (.int c_183), .val (.int c_184), .val (.int c_185), .val (.int c_186), .unset, .unset, .unset, .unset, .unset] [(.ref b344)])) _
        refine XS.dup X344.here hx rfl (hb hby at_156) rfl rfl ?_
        show Steps p.tables e below (T344.setTop (mkF m 157 #[.val (.int p0), .val (.int p1), .val (.int p2), .val (.int p3), .val (.int p4), .val (.int (0 : Int32)), .val (.int (4 : Int32)), .val (.int c_183), .val (.int c_184), .val (.int c_185), .val (.int c_186), .unset, .unset, .unset, .unset, .unset] [(.ref b344), (.ref b344)])) _
        refine XS.iconst X344.here hx rfl (hb hby at_157) ?_
        show Steps p.tables e below (T344.setTop (mkF m 158 #[.val (.int p0), .val (.int p1), .val (.int p2), .val (.int p3), .val (.int p4), .val (.int (0 : Int32)), .val (.int (4 : Int32)), .val (.int c_183), .val (.int c_184), .val (.int c_185), .val (.int c_186), .unset, .unset, .unset, .unset, .unset] [(.int (4 : Int32)), (.ref b344), (.ref b344)])) _
        refine st348 _ ?_
        show Steps p.tables e below (T348.setTop (mkF m 160 #[.val (.int p0), .val (.int p1), .val (.int p2), .val (.int p3), .val (.int p4), .val (.int (0 : Int32)), .val (.int (4 : Int32)), .val (.int c_183), .val (.int c_184), .val (.int c_185), .val (.int c_186), .unset, .unset, .unset, .unset, .unset] [(.ref b348), (.ref b344), (.ref b344)])) _
        refine XS.dup X348.here hx rfl (hb hby at_160) rfl rfl ?_
        show Steps p.tables e below (T348.setTop (mkF m 161 #[.val (.int p0), .val (.int p1), .val (.int p2), .val (.int p3), .val (.int p4), .val (.int (0 : Int32)), .val (.int (4 : Int32)), .val (.int c_183), .val (.int c_184), .val (.int c_185), .val (.int c_186), .unset, .unset, .unset, .unset, .unset] [(.ref b348), (.ref b348), (.ref b344), (.ref b344)])) _
        refine XS.iconst X348.here hx rfl (hb hby at_161) ?_
        show Steps p.tables e below (T348.setTop (mkF m 162 #[.val (.int p0), .val (.int p1), .val (.int p2), .val (.int p3), .val (.int p4), .val (.int (0 : Int32)), .val (.int (4 : Int32)), .val (.int c_183), .val (.int c_184), .val (.int c_185), .val (.int c_186), .unset, .unset, .unset, .unset, .unset] [(.int (0 : Int32)), (.ref b348), (.ref b348), (.ref b344), (.ref b344)])) _
        refine XS.iload X348.here hx rfl (hb hby at_162) rfl ?_
        show Steps p.tables e below (T348.setTop (mkF m 164 #[.val (.int p0), .val (.int p1), .val (.int p2), .val (.int p3), .val (.int p4), .val (.int (0 : Int32)), .val (.int (4 : Int32)), .val (.int c_183), .val (.int c_184), .val (.int c_185), .val (.int c_186), .unset, .unset, .unset, .unset, .unset] [(.int c_183), (.int (0 : Int32)), (.ref b348), (.ref b348), (.ref b344), (.ref b344)])) _
        refine st353 _ ?_
        show Steps p.tables e below (T353.setTop (mkF m 165 #[.val (.int p0), .val (.int p1), .val (.int p2), .val (.int p3), .val (.int p4), .val (.int (0 : Int32)), .val (.int (4 : Int32)), .val (.int c_183), .val (.int c_184), .val (.int c_185), .val (.int c_186), .unset, .unset, .unset, .unset, .unset] [(.ref b348), (.ref b344), (.ref b344)])) _
        refine XS.dup X353.here hx rfl (hb hby at_165) rfl rfl ?_
        show Steps p.tables e below (T353.setTop (mkF m 166 #[.val (.int p0), .val (.int p1), .val (.int p2), .val (.int p3), .val (.int p4), .val (.int (0 : Int32)), .val (.int (4 : Int32)), .val (.int c_183), .val (.int c_184), .val (.int c_185), .val (.int c_186), .unset, .unset, .unset, .unset, .unset] [(.ref b348), (.ref b348), (.ref b344), (.ref b344)])) _
        refine XS.iconst X353.here hx rfl (hb hby at_166) ?_
        show Steps p.tables e below (T353.setTop (mkF m 167 #[.val (.int p0), .val (.int p1), .val (.int p2), .val (.int p3), .val (.int p4), .val (.int (0 : Int32)), .val (.int (4 : Int32)), .val (.int c_183), .val (.int c_184), .val (.int c_185), .val (.int c_186), .unset, .unset, .unset, .unset, .unset] [(.int (1 : Int32)), (.ref b348), (.ref b348), (.ref b344), (.ref b344)])) _
        refine XS.iload X353.here hx rfl (hb hby at_167) rfl ?_
        show Steps p.tables e below (T353.setTop (mkF m 169 #[.val (.int p0), .val (.int p1), .val (.int p2), .val (.int p3), .val (.int p4), .val (.int (0 : Int32)), .val (.int (4 : Int32)), .val (.int c_183), .val (.int c_184), .val (.int c_185), .val (.int c_186), .unset, .unset, .unset, .unset, .unset] [(.int c_184), (.int (1 : Int32)), (.ref b348), (.ref b348), (.ref b344), (.ref b344)])) _
        refine st357 _ ?_
        show Steps p.tables e below (T357.setTop (mkF m 170 #[.val (.int p0), .val (.int p1), .val (.int p2), .val (.int p3), .val (.int p4), .val (.int (0 : Int32)), .val (.int (4 : Int32)), .val (.int c_183), .val (.int c_184), .val (.int c_185), .val (.int c_186), .unset, .unset, .unset, .unset, .unset] [(.ref b348), (.ref b344), (.ref b344)])) _
        refine XS.dup X357.here hx rfl (hb hby at_170) rfl rfl ?_
        show Steps p.tables e below (T357.setTop (mkF m 171 #[.val (.int p0), .val (.int p1), .val (.int p2), .val (.int p3), .val (.int p4), .val (.int (0 : Int32)), .val (.int (4 : Int32)), .val (.int c_183), .val (.int c_184), .val (.int c_185), .val (.int c_186), .unset, .unset, .unset, .unset, .unset] [(.ref b348), (.ref b348), (.ref b344), (.ref b344)])) _
        refine XS.iconst X357.here hx rfl (hb hby at_171) ?_
        show Steps p.tables e below (T357.setTop (mkF m 172 #[.val (.int p0), .val (.int p1), .val (.int p2), .val (.int p3), .val (.int p4), .val (.int (0 : Int32)), .val (.int (4 : Int32)), .val (.int c_183), .val (.int c_184), .val (.int c_185), .val (.int c_186), .unset, .unset, .unset, .unset, .unset] [(.int (2 : Int32)), (.ref b348), (.ref b348), (.ref b344), (.ref b344)])) _
        refine XS.iload X357.here hx rfl (hb hby at_172) rfl ?_
        show Steps p.tables e below (T357.setTop (mkF m 174 #[.val (.int p0), .val (.int p1), .val (.int p2), .val (.int p3), .val (.int p4), .val (.int (0 : Int32)), .val (.int (4 : Int32)), .val (.int c_183), .val (.int c_184), .val (.int c_185), .val (.int c_186), .unset, .unset, .unset, .unset, .unset] [(.int c_185), (.int (2 : Int32)), (.ref b348), (.ref b348), (.ref b344), (.ref b344)])) _
        refine st361 _ ?_
        show Steps p.tables e below (T361.setTop (mkF m 175 #[.val (.int p0), .val (.int p1), .val (.int p2), .val (.int p3), .val (.int p4), .val (.int (0 : Int32)), .val (.int (4 : Int32)), .val (.int c_183), .val (.int c_184), .val (.int c_185), .val (.int c_186), .unset, .unset, .unset, .unset, .unset] [(.ref b348), (.ref b344), (.ref b344)])) _
        refine XS.dup X361.here hx rfl (hb hby at_175) rfl rfl ?_
        show Steps p.tables e below (T361.setTop (mkF m 176 #[.val (.int p0), .val (.int p1), .val (.int p2), .val (.int p3), .val (.int p4), .val (.int (0 : Int32)), .val (.int (4 : Int32)), .val (.int c_183), .val (.int c_184), .val (.int c_185), .val (.int c_186), .unset, .unset, .unset, .unset, .unset] [(.ref b348), (.ref b348), (.ref b344), (.ref b344)])) _
        refine XS.iconst X361.here hx rfl (hb hby at_176) ?_
        show Steps p.tables e below (T361.setTop (mkF m 177 #[.val (.int p0), .val (.int p1), .val (.int p2), .val (.int p3), .val (.int p4), .val (.int (0 : Int32)), .val (.int (4 : Int32)), .val (.int c_183), .val (.int c_184), .val (.int c_185), .val (.int c_186), .unset, .unset, .unset, .unset, .unset] [(.int (3 : Int32)), (.ref b348), (.ref b348), (.ref b344), (.ref b344)])) _
        refine XS.iload X361.here hx rfl (hb hby at_177) rfl ?_
        show Steps p.tables e below (T361.setTop (mkF m 179 #[.val (.int p0), .val (.int p1), .val (.int p2), .val (.int p3), .val (.int p4), .val (.int (0 : Int32)), .val (.int (4 : Int32)), .val (.int c_183), .val (.int c_184), .val (.int c_185), .val (.int c_186), .unset, .unset, .unset, .unset, .unset] [(.int c_186), (.int (3 : Int32)), (.ref b348), (.ref b348), (.ref b344), (.ref b344)])) _
        refine st365 _ ?_
        show Steps p.tables e below (T365.setTop (mkF m 180 #[.val (.int p0), .val (.int p1), .val (.int p2), .val (.int p3), .val (.int p4), .val (.int (0 : Int32)), .val (.int (4 : Int32)), .val (.int c_183), .val (.int c_184), .val (.int c_185), .val (.int c_186), .unset, .unset, .unset, .unset, .unset] [(.ref b348), (.ref b344), (.ref b344)])) _
        refine st368.trans ?_
        show Steps p.tables e below (T368.setTop (mkF m 183 #[.val (.int p0), .val (.int p1), .val (.int p2), .val (.int p3), .val (.int p4), .val (.int (0 : Int32)), .val (.int (4 : Int32)), .val (.int c_183), .val (.int c_184), .val (.int c_185), .val (.int c_186), .unset, .unset, .unset, .unset, .unset] [(.ref b344)])) _
        refine XS.astore X368.here hx rfl (hb hby at_183) rfl rfl (l' := #[.val (.int p0), .val (.int p1), .val (.int p2), .val (.int p3), .val (.int p4), .val (.int (0 : Int32)), .val (.int (4 : Int32)), .val (.int c_183), .val (.int c_184), .val (.int c_185), .val (.int c_186), .val (.ref b344), .unset, .unset, .unset, .unset]) rfl ?_
        show Steps p.tables e below (T368.setTop (mkF m 185 #[.val (.int p0), .val (.int p1), .val (.int p2), .val (.int p3), .val (.int p4), .val (.int (0 : Int32)), .val (.int (4 : Int32)), .val (.int c_183), .val (.int c_184), .val (.int c_185), .val (.int c_186), .val (.ref b344), .unset, .unset, .unset, .unset] [])) _
        refine XS.iload X368.here hx rfl (hb hby at_185) rfl ?_
        show Steps p.tables e below (T368.setTop (mkF m 187 #[.val (.int p0), .val (.int p1), .val (.int p2), .val (.int p3), .val (.int p4), .val (.int (0 : Int32)), .val (.int (4 : Int32)), .val (.int c_183), .val (.int c_184), .val (.int c_185), .val (.int c_186), .val (.ref b344), .unset, .unset, .unset, .unset] [(.int (0 : Int32))])) _
        refine XS.ifYes X368.here hx rfl (pc0 := 187) (pc' := 196) rfl (hb hby at_187) rfl ((if0 _ _).trans (teq (by decide : (0 : Int32) = (0 : Int32))).1) (by decide) (by decide) ?_
        show Steps p.tables e below (T368.setTop (mkF m 196 #[.val (.int p0), .val (.int p1), .val (.int p2), .val (.int p3), .val (.int p4), .val (.int (0 : Int32)), .val (.int (4 : Int32)), .val (.int c_183), .val (.int c_184), .val (.int c_185), .val (.int c_186), .val (.ref b344), .unset, .unset, .unset, .unset] [])) _
        refine st378 _ ?_
        show Steps p.tables e below (T378.setTop (mkF m 199 #[.val (.int p0), .val (.int p1), .val (.int p2), .val (.int p3), .val (.int p4), .val (.int (0 : Int32)), .val (.int (4 : Int32)), .val (.int c_183), .val (.int c_184), .val (.int c_185), .val (.int c_186), .val (.ref b344), .unset, .unset, .unset, .unset] [(.ref wR)])) _
        refine XS.astore X378.here hx rfl (hb hby at_199) rfl rfl (l' := #[.val (.int p0), .val (.int p1), .val (.int p2), .val (.int p3), .val (.int p4), .val (.int (0 : Int32)), .val (.int (4 : Int32)), .val (.int c_183), .val (.int c_184), .val (.int c_185), .val (.int c_186), .val (.ref b344), .val (.ref wR), .unset, .unset, .unset]) rfl ?_
        show Steps p.tables e below (T378.setTop (mkF m 201 #[.val (.int p0), .val (.int p1), .val (.int p2), .val (.int p3), .val (.int p4), .val (.int (0 : Int32)), .val (.int (4 : Int32)), .val (.int c_183), .val (.int c_184), .val (.int c_185), .val (.int c_186), .val (.ref b344), .val (.ref wR), .unset, .unset, .unset] [])) _
        refine XS.iload X378.here hx rfl (hb hby at_201) rfl ?_
        show Steps p.tables e below (T378.setTop (mkF m 203 #[.val (.int p0), .val (.int p1), .val (.int p2), .val (.int p3), .val (.int p4), .val (.int (0 : Int32)), .val (.int (4 : Int32)), .val (.int c_183), .val (.int c_184), .val (.int c_185), .val (.int c_186), .val (.ref b344), .val (.ref wR), .unset, .unset, .unset] [(.int (4 : Int32))])) _
        refine XS.iconst X378.here hx rfl (hb hby at_203) ?_
        show Steps p.tables e below (T378.setTop (mkF m 204 #[.val (.int p0), .val (.int p1), .val (.int p2), .val (.int p3), .val (.int p4), .val (.int (0 : Int32)), .val (.int (4 : Int32)), .val (.int c_183), .val (.int c_184), .val (.int c_185), .val (.int c_186), .val (.ref b344), .val (.ref wR), .unset, .unset, .unset] [(.int (3 : Int32)), (.int (4 : Int32))])) _
        refine XS.icmpYes X378.here hx rfl (pc0 := 204) (pc' := 232) rfl (hb hby at_204) rfl (feq (by decide : ¬ ((4 : Int32) = (3 : Int32)))).2 (by decide) (by decide) ?_
        show Steps p.tables e below (T378.setTop (mkF m 232 #[.val (.int p0), .val (.int p1), .val (.int p2), .val (.int p3), .val (.int p4), .val (.int (0 : Int32)), .val (.int (4 : Int32)), .val (.int c_183), .val (.int c_184), .val (.int c_185), .val (.int c_186), .val (.ref b344), .val (.ref wR), .unset, .unset, .unset] [])) _
        refine XS.iconst X378.here hx rfl (hb hby at_232) ?_
        show Steps p.tables e below (T378.setTop (mkF m 233 #[.val (.int p0), .val (.int p1), .val (.int p2), .val (.int p3), .val (.int p4), .val (.int (0 : Int32)), .val (.int (4 : Int32)), .val (.int c_183), .val (.int c_184), .val (.int c_185), .val (.int c_186), .val (.ref b344), .val (.ref wR), .unset, .unset, .unset] [(.int (0 : Int32))])) _
        refine XS.istore X378.here hx rfl (hb hby at_233) rfl (l' := #[.val (.int p0), .val (.int p1), .val (.int p2), .val (.int p3), .val (.int p4), .val (.int (0 : Int32)), .val (.int (4 : Int32)), .val (.int c_183), .val (.int c_184), .val (.int c_185), .val (.int c_186), .val (.ref b344), .val (.ref wR), .val (.int (0 : Int32)), .unset, .unset]) rfl ?_
        show Steps p.tables e below (T378.setTop (mkF m 235 #[.val (.int p0), .val (.int p1), .val (.int p2), .val (.int p3), .val (.int p4), .val (.int (0 : Int32)), .val (.int (4 : Int32)), .val (.int c_183), .val (.int c_184), .val (.int c_185), .val (.int c_186), .val (.ref b344), .val (.ref wR), .val (.int (0 : Int32)), .unset, .unset] [])) _
        refine XS.iload X378.here hx rfl (hb hby at_235) rfl ?_
        show Steps p.tables e below (T378.setTop (mkF m 237 #[.val (.int p0), .val (.int p1), .val (.int p2), .val (.int p3), .val (.int p4), .val (.int (0 : Int32)), .val (.int (4 : Int32)), .val (.int c_183), .val (.int c_184), .val (.int c_185), .val (.int c_186), .val (.ref b344), .val (.ref wR), .val (.int (0 : Int32)), .unset, .unset] [(.int (4 : Int32))])) _
        refine XS.iconst X378.here hx rfl (hb hby at_237) ?_
        show Steps p.tables e below (T378.setTop (mkF m 238 #[.val (.int p0), .val (.int p1), .val (.int p2), .val (.int p3), .val (.int p4), .val (.int (0 : Int32)), .val (.int (4 : Int32)), .val (.int c_183), .val (.int c_184), .val (.int c_185), .val (.int c_186), .val (.ref b344), .val (.ref wR), .val (.int (0 : Int32)), .unset, .unset] [(.int (4 : Int32)), (.int (4 : Int32))])) _
        refine XS.icmpNo X378.here hx rfl (hb hby at_238) rfl (teq (by decide : (4 : Int32) = (4 : Int32))).2 ?_
        show Steps p.tables e below (T378.setTop (mkF m 241 #[.val (.int p0), .val (.int p1), .val (.int p2), .val (.int p3), .val (.int p4), .val (.int (0 : Int32)), .val (.int (4 : Int32)), .val (.int c_183), .val (.int c_184), .val (.int c_185), .val (.int c_186), .val (.ref b344), .val (.ref wR), .val (.int (0 : Int32)), .unset, .unset] [])) _
        refine XS.iload X378.here hx rfl (hb hby at_241) rfl ?_
        show Steps p.tables e below (T378.setTop (mkF m 243 #[.val (.int p0), .val (.int p1), .val (.int p2), .val (.int p3), .val (.int p4), .val (.int (0 : Int32)), .val (.int (4 : Int32)), .val (.int c_183), .val (.int c_184), .val (.int c_185), .val (.int c_186), .val (.ref b344), .val (.ref wR), .val (.int (0 : Int32)), .unset, .unset] [(.int c_183)])) _
        refine XS.bipush X378.here hx rfl (hb hby at_243) ?_
        exact k
      by_cases hc380 : c_183 = (72 : Int32)
      · have pre381 : ∀ t, Steps p.tables e below (T378.setTop (mkF m 252 #[.val (.int p0), .val (.int p1), .val (.int p2), .val (.int p3), .val (.int p4), .val (.int (0 : Int32)), .val (.int (4 : Int32)), .val (.int c_183), .val (.int c_184), .val (.int c_185), .val (.int c_186), .val (.ref b344), .val (.ref wR), .val (.int (0 : Int32)), .unset, .unset] [(.int (69 : Int32)), (.int c_184)])) t → Steps p.tables e below (s₁.setTop (entryFrame m #[(.int p0), (.int p1), (.int p2), (.int p3), (.int p4)] maxLocals)) t := fun t k => by
          refine pre379 _ ?_
          show Steps p.tables e below (T378.setTop (mkF m 245 #[.val (.int p0), .val (.int p1), .val (.int p2), .val (.int p3), .val (.int p4), .val (.int (0 : Int32)), .val (.int (4 : Int32)), .val (.int c_183), .val (.int c_184), .val (.int c_185), .val (.int c_186), .val (.ref b344), .val (.ref wR), .val (.int (0 : Int32)), .unset, .unset] [(.int (72 : Int32)), (.int c_183)])) _
          refine XS.icmpNo X378.here hx rfl (hb hby at_245) rfl (teq (hc380 : c_183 = (72 : Int32))).2 ?_
          show Steps p.tables e below (T378.setTop (mkF m 248 #[.val (.int p0), .val (.int p1), .val (.int p2), .val (.int p3), .val (.int p4), .val (.int (0 : Int32)), .val (.int (4 : Int32)), .val (.int c_183), .val (.int c_184), .val (.int c_185), .val (.int c_186), .val (.ref b344), .val (.ref wR), .val (.int (0 : Int32)), .unset, .unset] [])) _
          refine XS.iload X378.here hx rfl (hb hby at_248) rfl ?_
          show Steps p.tables e below (T378.setTop (mkF m 250 #[.val (.int p0), .val (.int p1), .val (.int p2), .val (.int p3), .val (.int p4), .val (.int (0 : Int32)), .val (.int (4 : Int32)), .val (.int c_183), .val (.int c_184), .val (.int c_185), .val (.int c_186), .val (.ref b344), .val (.ref wR), .val (.int (0 : Int32)), .unset, .unset] [(.int c_184)])) _
          refine XS.bipush X378.here hx rfl (hb hby at_250) ?_
          exact k
        by_cases hc382 : c_184 = (69 : Int32)
        · have pre383 : ∀ t, Steps p.tables e below (T378.setTop (mkF m 259 #[.val (.int p0), .val (.int p1), .val (.int p2), .val (.int p3), .val (.int p4), .val (.int (0 : Int32)), .val (.int (4 : Int32)), .val (.int c_183), .val (.int c_184), .val (.int c_185), .val (.int c_186), .val (.ref b344), .val (.ref wR), .val (.int (0 : Int32)), .unset, .unset] [(.int (65 : Int32)), (.int c_185)])) t → Steps p.tables e below (s₁.setTop (entryFrame m #[(.int p0), (.int p1), (.int p2), (.int p3), (.int p4)] maxLocals)) t := fun t k => by
            refine pre381 _ ?_
            show Steps p.tables e below (T378.setTop (mkF m 252 #[.val (.int p0), .val (.int p1), .val (.int p2), .val (.int p3), .val (.int p4), .val (.int (0 : Int32)), .val (.int (4 : Int32)), .val (.int c_183), .val (.int c_184), .val (.int c_185), .val (.int c_186), .val (.ref b344), .val (.ref wR), .val (.int (0 : Int32)), .unset, .unset] [(.int (69 : Int32)), (.int c_184)])) _
            refine XS.icmpNo X378.here hx rfl (hb hby at_252) rfl (teq (hc382 : c_184 = (69 : Int32))).2 ?_
            show Steps p.tables e below (T378.setTop (mkF m 255 #[.val (.int p0), .val (.int p1), .val (.int p2), .val (.int p3), .val (.int p4), .val (.int (0 : Int32)), .val (.int (4 : Int32)), .val (.int c_183), .val (.int c_184), .val (.int c_185), .val (.int c_186), .val (.ref b344), .val (.ref wR), .val (.int (0 : Int32)), .unset, .unset] [])) _
            refine XS.iload X378.here hx rfl (hb hby at_255) rfl ?_
            show Steps p.tables e below (T378.setTop (mkF m 257 #[.val (.int p0), .val (.int p1), .val (.int p2), .val (.int p3), .val (.int p4), .val (.int (0 : Int32)), .val (.int (4 : Int32)), .val (.int c_183), .val (.int c_184), .val (.int c_185), .val (.int c_186), .val (.ref b344), .val (.ref wR), .val (.int (0 : Int32)), .unset, .unset] [(.int c_185)])) _
            refine XS.bipush X378.here hx rfl (hb hby at_257) ?_
            exact k
          by_cases hc384 : c_185 = (65 : Int32)
          · have pre385 : ∀ t, Steps p.tables e below (T378.setTop (mkF m 266 #[.val (.int p0), .val (.int p1), .val (.int p2), .val (.int p3), .val (.int p4), .val (.int (0 : Int32)), .val (.int (4 : Int32)), .val (.int c_183), .val (.int c_184), .val (.int c_185), .val (.int c_186), .val (.ref b344), .val (.ref wR), .val (.int (0 : Int32)), .unset, .unset] [(.int (68 : Int32)), (.int c_186)])) t → Steps p.tables e below (s₁.setTop (entryFrame m #[(.int p0), (.int p1), (.int p2), (.int p3), (.int p4)] maxLocals)) t := fun t k => by
              refine pre383 _ ?_
              show Steps p.tables e below (T378.setTop (mkF m 259 #[.val (.int p0), .val (.int p1), .val (.int p2), .val (.int p3), .val (.int p4), .val (.int (0 : Int32)), .val (.int (4 : Int32)), .val (.int c_183), .val (.int c_184), .val (.int c_185), .val (.int c_186), .val (.ref b344), .val (.ref wR), .val (.int (0 : Int32)), .unset, .unset] [(.int (65 : Int32)), (.int c_185)])) _
              refine XS.icmpNo X378.here hx rfl (hb hby at_259) rfl (teq (hc384 : c_185 = (65 : Int32))).2 ?_
              show Steps p.tables e below (T378.setTop (mkF m 262 #[.val (.int p0), .val (.int p1), .val (.int p2), .val (.int p3), .val (.int p4), .val (.int (0 : Int32)), .val (.int (4 : Int32)), .val (.int c_183), .val (.int c_184), .val (.int c_185), .val (.int c_186), .val (.ref b344), .val (.ref wR), .val (.int (0 : Int32)), .unset, .unset] [])) _
              refine XS.iload X378.here hx rfl (hb hby at_262) rfl ?_
              show Steps p.tables e below (T378.setTop (mkF m 264 #[.val (.int p0), .val (.int p1), .val (.int p2), .val (.int p3), .val (.int p4), .val (.int (0 : Int32)), .val (.int (4 : Int32)), .val (.int c_183), .val (.int c_184), .val (.int c_185), .val (.int c_186), .val (.ref b344), .val (.ref wR), .val (.int (0 : Int32)), .unset, .unset] [(.int c_186)])) _
              refine XS.bipush X378.here hx rfl (hb hby at_264) ?_
              exact k
            by_cases hc386 : c_186 = (68 : Int32)
            · have Xo387 : Ext Z.heap T368.heap := own_extT X00 (own_ext KC374)
              have Fc388 := (own_staK ((((((H0.ext E344).ext E348).wr W353).wr W357).wr W361).wr W365) K368 (allS ⟨_, Fc369⟩ all0))
              have Fc389 := (own_staK Fc372 K368 (allS ⟨_, Fc369⟩ all0))
              have z391 := congrArg Array.size e378
              have Fc392 := (((((((H3.ext E344).ext E348).wr W353).wr W357).wr W361).wr W365).keep K368)
              obtain ⟨cq390, kq390, qa390, qb390, qc390⟩ := isOf hZ e378 Fc392
              obtain ⟨_, _, ⟨T390, L390, k390, n390⟩, -, Y390, hY390, gY390, ⟨Lc390, hQ390, l390, y390, z390⟩, st390⟩ := X378.virtualBackS hx (y := (⟨"com/example/task_relay/taskrelay/Scope", "allows", "(Ljava/lang/String;)Z"⟩ : MethodName)) (z := (⟨"com/example/task_relay/taskrelay/Scope", "allows", "(Ljava/lang/String;)Z"⟩ : MethodName)) hown (mvT hZ (hw _ (List.mem_of_getElem? (i := 15) rfl))) (mvT hZ (hw _ (List.mem_of_getElem? (i := 16) rfl))) (notFace_of_selects (args := #[]) (mvT hZ (hw _ (List.mem_of_getElem? (i := 18) rfl)))) (mvT hZ (hw _ (List.mem_of_getElem? (i := 18) rfl))) (mvT hZ (hw _ (List.mem_of_getElem? (i := 17) rfl))) (by decide) (backOfI (W := 0) (rmar4 l Z a0 hw [] wR b344 wF G1 bv368 kb368 c_183 c_184 c_185 c_186 T368.heap h0.size (by omega) Fc388 Fc389 (hG1 : ¬ (G1 = (0 : Int32))) (hh58 : Jvm.Lit.constHeld Z "com/example/task_relay/taskrelay/Scope" 58) (hh60 : Jvm.Lit.constHeld Z "com/example/task_relay/taskrelay/Scope" 60) (Xo387 : Ext Z.heap T368.heap) (hcw : Jvm.Lit.compactW.before a0 Z = true) (hne : ¬ (wR = wF)) P368E P368C P368V P368B (P183_0 : ¬ (c_183 < 0) ∧ ¬ ((255 : Int32) < c_183)) (P184_0 : ¬ (c_184 < 0) ∧ ¬ ((255 : Int32) < c_184)) (P185_0 : ¬ (c_185 < 0) ∧ ¬ ((255 : Int32) < c_185)) (P186_0 : ¬ (c_186 < 0) ∧ ¬ ((255 : Int32) < c_186))) hZ (hw _ (List.mem_of_getElem? (i := 19) rfl)) (hw _ (List.mem_of_getElem? (i := 13) rfl)) (by decide) (by decide)) qa390 qc390 (g := (mkF m 302 #[.val (.int p0), .val (.int p1), .val (.int p2), .val (.int p3), .val (.int p4), .val (.int (0 : Int32)), .val (.int (4 : Int32)), .val (.int c_183), .val (.int c_184), .val (.int c_185), .val (.int c_186), .val (.ref b344), .val (.ref wR), .val (.int (0 : Int32)), .val (.int (1 : Int32)), .val (.int (1 : Int32))] [(.ref b344), (.ref wR)])) rfl (by rw [hml]; rfl) (Steps.refl _) (argsL := [(.ref b344)]) (rest := []) (lenOf pd_2 rfl) rfl (by show 2 * 0 + _ ≤ _; exact Nat.le_of_eq rfl) (hb hby at_302) (fun _ Hw => ⟨rfl, e378, (by decide : 3 + 4 ≤ _), (by decide : 12 + 36 ≤ _), own_IBw hI Hw⟩)
              dsimp only [Pt.U, Pt.locs, Pt.cells, Pt.slots] at Y390 hY390 gY390 l390 y390 z390 st390 hQ390
              subst l390 y390 z390
              obtain ⟨X390, hS390, hZ390, hw390⟩ := rebS (s := s) (vm0 := s.vm) hS0 (by omega : h0.size ≤ T378.heap.size) Y390 hY390 gY390 hZ hown
              obtain ⟨rfl, N390q, K390⟩ := hQ390
              have N390 := Fr.app N368 N390q
              have z393 := K390.1
              have KC394 : Keep h0 T390.heap [] := KC374.trans K390 all0
              obtain ⟨fs, hr, hrun, hended, rE1, rE2, rE3, rE4⟩ := leaveW (s := s) (vm₁ := T390.vm) X390 hS390 (by omega : T390.heap.size ≤ T390.heap.size) (v := some (.int (1 : Int32))) (fun h => by rw [Bd.returns] at h; cases h)
              refine ⟨_, _, pre385 _ ?_, hrun, hended, _, _, rfl, ?_, rE1, rE2, rE3, rE4.mono (by decide) (by decide)⟩
              · show Steps p.tables e below (T378.setTop (mkF m 266 #[.val (.int p0), .val (.int p1), .val (.int p2), .val (.int p3), .val (.int p4), .val (.int (0 : Int32)), .val (.int (4 : Int32)), .val (.int c_183), .val (.int c_184), .val (.int c_185), .val (.int c_186), .val (.ref b344), .val (.ref wR), .val (.int (0 : Int32)), .unset, .unset] [(.int (68 : Int32)), (.int c_186)])) _
                refine XS.icmpNo X378.here hx rfl (hb hby at_266) rfl (teq (hc386 : c_186 = (68 : Int32))).2 ?_
                show Steps p.tables e below (T378.setTop (mkF m 269 #[.val (.int p0), .val (.int p1), .val (.int p2), .val (.int p3), .val (.int p4), .val (.int (0 : Int32)), .val (.int (4 : Int32)), .val (.int c_183), .val (.int c_184), .val (.int c_185), .val (.int c_186), .val (.ref b344), .val (.ref wR), .val (.int (0 : Int32)), .unset, .unset] [])) _
                refine XS.iconst X378.here hx rfl (hb hby at_269) ?_
                show Steps p.tables e below (T378.setTop (mkF m 270 #[.val (.int p0), .val (.int p1), .val (.int p2), .val (.int p3), .val (.int p4), .val (.int (0 : Int32)), .val (.int (4 : Int32)), .val (.int c_183), .val (.int c_184), .val (.int c_185), .val (.int c_186), .val (.ref b344), .val (.ref wR), .val (.int (0 : Int32)), .unset, .unset] [(.int (1 : Int32))])) _
                refine XS.goto X378.here hx rfl (pc0 := 270) (pc' := 274) rfl (hb hby at_270) (by decide) (by decide) ?_
                show Steps p.tables e below (T378.setTop (mkF m 274 #[.val (.int p0), .val (.int p1), .val (.int p2), .val (.int p3), .val (.int p4), .val (.int (0 : Int32)), .val (.int (4 : Int32)), .val (.int c_183), .val (.int c_184), .val (.int c_185), .val (.int c_186), .val (.ref b344), .val (.ref wR), .val (.int (0 : Int32)), .unset, .unset] [(.int (1 : Int32))])) _
                refine XS.istore X378.here hx rfl (hb hby at_274) rfl (l' := #[.val (.int p0), .val (.int p1), .val (.int p2), .val (.int p3), .val (.int p4), .val (.int (0 : Int32)), .val (.int (4 : Int32)), .val (.int c_183), .val (.int c_184), .val (.int c_185), .val (.int c_186), .val (.ref b344), .val (.ref wR), .val (.int (0 : Int32)), .val (.int (1 : Int32)), .unset]) rfl ?_
                show Steps p.tables e below (T378.setTop (mkF m 276 #[.val (.int p0), .val (.int p1), .val (.int p2), .val (.int p3), .val (.int p4), .val (.int (0 : Int32)), .val (.int (4 : Int32)), .val (.int c_183), .val (.int c_184), .val (.int c_185), .val (.int c_186), .val (.ref b344), .val (.ref wR), .val (.int (0 : Int32)), .val (.int (1 : Int32)), .unset] [])) _
                refine XS.iload X378.here hx rfl (hb hby at_276) rfl ?_
                show Steps p.tables e below (T378.setTop (mkF m 278 #[.val (.int p0), .val (.int p1), .val (.int p2), .val (.int p3), .val (.int p4), .val (.int (0 : Int32)), .val (.int (4 : Int32)), .val (.int c_183), .val (.int c_184), .val (.int c_185), .val (.int c_186), .val (.ref b344), .val (.ref wR), .val (.int (0 : Int32)), .val (.int (1 : Int32)), .unset] [(.int (0 : Int32))])) _
                refine XS.ifNo X378.here hx rfl (hb hby at_278) rfl ((if0 _ _).trans (teq (by decide : (0 : Int32) = (0 : Int32))).2) ?_
                show Steps p.tables e below (T378.setTop (mkF m 281 #[.val (.int p0), .val (.int p1), .val (.int p2), .val (.int p3), .val (.int p4), .val (.int (0 : Int32)), .val (.int (4 : Int32)), .val (.int c_183), .val (.int c_184), .val (.int c_185), .val (.int c_186), .val (.ref b344), .val (.ref wR), .val (.int (0 : Int32)), .val (.int (1 : Int32)), .unset] [])) _
                refine XS.iload X378.here hx rfl (hb hby at_281) rfl ?_
                show Steps p.tables e below (T378.setTop (mkF m 283 #[.val (.int p0), .val (.int p1), .val (.int p2), .val (.int p3), .val (.int p4), .val (.int (0 : Int32)), .val (.int (4 : Int32)), .val (.int c_183), .val (.int c_184), .val (.int c_185), .val (.int c_186), .val (.ref b344), .val (.ref wR), .val (.int (0 : Int32)), .val (.int (1 : Int32)), .unset] [(.int (0 : Int32))])) _
                refine XS.ifNo X378.here hx rfl (hb hby at_283) rfl ((if0 _ _).trans (teq (by decide : (0 : Int32) = (0 : Int32))).2) ?_
                show Steps p.tables e below (T378.setTop (mkF m 286 #[.val (.int p0), .val (.int p1), .val (.int p2), .val (.int p3), .val (.int p4), .val (.int (0 : Int32)), .val (.int (4 : Int32)), .val (.int c_183), .val (.int c_184), .val (.int c_185), .val (.int c_186), .val (.ref b344), .val (.ref wR), .val (.int (0 : Int32)), .val (.int (1 : Int32)), .unset] [])) _
                refine XS.iload X378.here hx rfl (hb hby at_286) rfl ?_
                show Steps p.tables e below (T378.setTop (mkF m 288 #[.val (.int p0), .val (.int p1), .val (.int p2), .val (.int p3), .val (.int p4), .val (.int (0 : Int32)), .val (.int (4 : Int32)), .val (.int c_183), .val (.int c_184), .val (.int c_185), .val (.int c_186), .val (.ref b344), .val (.ref wR), .val (.int (0 : Int32)), .val (.int (1 : Int32)), .unset] [(.int (1 : Int32))])) _
                refine XS.ifNo X378.here hx rfl (hb hby at_288) rfl ((if0 _ _).trans (feq (by decide : ¬ ((1 : Int32) = (0 : Int32)))).1) ?_
                show Steps p.tables e below (T378.setTop (mkF m 291 #[.val (.int p0), .val (.int p1), .val (.int p2), .val (.int p3), .val (.int p4), .val (.int (0 : Int32)), .val (.int (4 : Int32)), .val (.int c_183), .val (.int c_184), .val (.int c_185), .val (.int c_186), .val (.ref b344), .val (.ref wR), .val (.int (0 : Int32)), .val (.int (1 : Int32)), .unset] [])) _
                refine XS.iconst X378.here hx rfl (hb hby at_291) ?_
                show Steps p.tables e below (T378.setTop (mkF m 292 #[.val (.int p0), .val (.int p1), .val (.int p2), .val (.int p3), .val (.int p4), .val (.int (0 : Int32)), .val (.int (4 : Int32)), .val (.int c_183), .val (.int c_184), .val (.int c_185), .val (.int c_186), .val (.ref b344), .val (.ref wR), .val (.int (0 : Int32)), .val (.int (1 : Int32)), .unset] [(.int (1 : Int32))])) _
                refine XS.goto X378.here hx rfl (pc0 := 292) (pc' := 296) rfl (hb hby at_292) (by decide) (by decide) ?_
                show Steps p.tables e below (T378.setTop (mkF m 296 #[.val (.int p0), .val (.int p1), .val (.int p2), .val (.int p3), .val (.int p4), .val (.int (0 : Int32)), .val (.int (4 : Int32)), .val (.int c_183), .val (.int c_184), .val (.int c_185), .val (.int c_186), .val (.ref b344), .val (.ref wR), .val (.int (0 : Int32)), .val (.int (1 : Int32)), .unset] [(.int (1 : Int32))])) _
                refine XS.istore X378.here hx rfl (hb hby at_296) rfl (l' := #[.val (.int p0), .val (.int p1), .val (.int p2), .val (.int p3), .val (.int p4), .val (.int (0 : Int32)), .val (.int (4 : Int32)), .val (.int c_183), .val (.int c_184), .val (.int c_185), .val (.int c_186), .val (.ref b344), .val (.ref wR), .val (.int (0 : Int32)), .val (.int (1 : Int32)), .val (.int (1 : Int32))]) rfl ?_
                show Steps p.tables e below (T378.setTop (mkF m 298 #[.val (.int p0), .val (.int p1), .val (.int p2), .val (.int p3), .val (.int p4), .val (.int (0 : Int32)), .val (.int (4 : Int32)), .val (.int c_183), .val (.int c_184), .val (.int c_185), .val (.int c_186), .val (.ref b344), .val (.ref wR), .val (.int (0 : Int32)), .val (.int (1 : Int32)), .val (.int (1 : Int32))] [])) _
                refine XS.aload X378.here hx rfl (hb hby at_298) rfl rfl ?_
                show Steps p.tables e below (T378.setTop (mkF m 300 #[.val (.int p0), .val (.int p1), .val (.int p2), .val (.int p3), .val (.int p4), .val (.int (0 : Int32)), .val (.int (4 : Int32)), .val (.int c_183), .val (.int c_184), .val (.int c_185), .val (.int c_186), .val (.ref b344), .val (.ref wR), .val (.int (0 : Int32)), .val (.int (1 : Int32)), .val (.int (1 : Int32))] [(.ref wR)])) _
                refine XS.aload X378.here hx rfl (hb hby at_300) rfl rfl ?_
                show Steps p.tables e below (T378.setTop (mkF m 302 #[.val (.int p0), .val (.int p1), .val (.int p2), .val (.int p3), .val (.int p4), .val (.int (0 : Int32)), .val (.int (4 : Int32)), .val (.int c_183), .val (.int c_184), .val (.int c_185), .val (.int c_186), .val (.ref b344), .val (.ref wR), .val (.int (0 : Int32)), .val (.int (1 : Int32)), .val (.int (1 : Int32))] [(.ref b344), (.ref wR)])) _
                refine st390.trans ?_
                show Steps p.tables e below (T390.setTop (mkF m 305 #[.val (.int p0), .val (.int p1), .val (.int p2), .val (.int p3), .val (.int p4), .val (.int (0 : Int32)), .val (.int (4 : Int32)), .val (.int c_183), .val (.int c_184), .val (.int c_185), .val (.int c_186), .val (.ref b344), .val (.ref wR), .val (.int (0 : Int32)), .val (.int (1 : Int32)), .val (.int (1 : Int32))] [(.int (bi (([c_183, c_184, c_185, c_186] : List Int32) = ([(72 : Int32), (69 : Int32), (65 : Int32), (68 : Int32)] : List Int32))))])) _
                refine XS.iload X390.here hx rfl (hb hby at_305) rfl ?_
                show Steps p.tables e below (T390.setTop (mkF m 307 #[.val (.int p0), .val (.int p1), .val (.int p2), .val (.int p3), .val (.int p4), .val (.int (0 : Int32)), .val (.int (4 : Int32)), .val (.int c_183), .val (.int c_184), .val (.int c_185), .val (.int c_186), .val (.ref b344), .val (.ref wR), .val (.int (0 : Int32)), .val (.int (1 : Int32)), .val (.int (1 : Int32))] [(.int (1 : Int32)), (.int (bi (([c_183, c_184, c_185, c_186] : List Int32) = ([(72 : Int32), (69 : Int32), (65 : Int32), (68 : Int32)] : List Int32))))])) _
                refine XS.icmpNo X390.here hx rfl (hb hby at_307) rfl (teq ((bi_t (by simp [hc380, hc382, hc384, hc386])) : (bi (([c_183, c_184, c_185, c_186] : List Int32) = ([(72 : Int32), (69 : Int32), (65 : Int32), (68 : Int32)] : List Int32))) = (1 : Int32))).2 ?_
                show Steps p.tables e below (T390.setTop (mkF m 310 #[.val (.int p0), .val (.int p1), .val (.int p2), .val (.int p3), .val (.int p4), .val (.int (0 : Int32)), .val (.int (4 : Int32)), .val (.int c_183), .val (.int c_184), .val (.int c_185), .val (.int c_186), .val (.ref b344), .val (.ref wR), .val (.int (0 : Int32)), .val (.int (1 : Int32)), .val (.int (1 : Int32))] [])) _
                refine XS.iconst X390.here hx rfl (hb hby at_310) ?_
                show Steps p.tables e below (T390.setTop (mkF m 311 #[.val (.int p0), .val (.int p1), .val (.int p2), .val (.int p3), .val (.int p4), .val (.int (0 : Int32)), .val (.int (4 : Int32)), .val (.int c_183), .val (.int c_184), .val (.int c_185), .val (.int c_186), .val (.ref b344), .val (.ref wR), .val (.int (0 : Int32)), .val (.int (1 : Int32)), .val (.int (1 : Int32))] [(.int (1 : Int32))])) _
                refine XS.goto X390.here hx rfl (pc0 := 311) (pc' := 315) rfl (hb hby at_311) (by decide) (by decide) ?_
                show Steps p.tables e below (T390.setTop (mkF m 315 #[.val (.int p0), .val (.int p1), .val (.int p2), .val (.int p3), .val (.int p4), .val (.int (0 : Int32)), .val (.int (4 : Int32)), .val (.int c_183), .val (.int c_184), .val (.int c_185), .val (.int c_186), .val (.ref b344), .val (.ref wR), .val (.int (0 : Int32)), .val (.int (1 : Int32)), .val (.int (1 : Int32))] [(.int (1 : Int32))])) _
                exact retN X390 hx (t := .boolean) Bd.returns (by simp) (hb hby at_315) hr
              · show Qrm0 Z p0 p1 p2 p3 p4 wF wR G1 h0 n0 _ T390.heap _
                exact ⟨rfl, (fun y hy => Nat.le_trans Z0 (N390 y hy)), KC394⟩
            · have Xo395 : Ext Z.heap T368.heap := own_extT X00 (own_ext KC374)
              have Fc396 := (own_staK ((((((H0.ext E344).ext E348).wr W353).wr W357).wr W361).wr W365) K368 (allS ⟨_, Fc369⟩ all0))
              have Fc397 := (own_staK Fc372 K368 (allS ⟨_, Fc369⟩ all0))
              have z399 := congrArg Array.size e378
              have Fc400 := (((((((H3.ext E344).ext E348).wr W353).wr W357).wr W361).wr W365).keep K368)
              obtain ⟨cq398, kq398, qa398, qb398, qc398⟩ := isOf hZ e378 Fc400
              obtain ⟨_, _, ⟨T398, L398, k398, n398⟩, -, Y398, hY398, gY398, ⟨Lc398, hQ398, l398, y398, z398⟩, st398⟩ := X378.virtualBackS hx (y := (⟨"com/example/task_relay/taskrelay/Scope", "allows", "(Ljava/lang/String;)Z"⟩ : MethodName)) (z := (⟨"com/example/task_relay/taskrelay/Scope", "allows", "(Ljava/lang/String;)Z"⟩ : MethodName)) hown (mvT hZ (hw _ (List.mem_of_getElem? (i := 15) rfl))) (mvT hZ (hw _ (List.mem_of_getElem? (i := 16) rfl))) (notFace_of_selects (args := #[]) (mvT hZ (hw _ (List.mem_of_getElem? (i := 18) rfl)))) (mvT hZ (hw _ (List.mem_of_getElem? (i := 18) rfl))) (mvT hZ (hw _ (List.mem_of_getElem? (i := 17) rfl))) (by decide) (backOfI (W := 0) (rmar4 l Z a0 hw [] wR b344 wF G1 bv368 kb368 c_183 c_184 c_185 c_186 T368.heap h0.size (by omega) Fc396 Fc397 (hG1 : ¬ (G1 = (0 : Int32))) (hh58 : Jvm.Lit.constHeld Z "com/example/task_relay/taskrelay/Scope" 58) (hh60 : Jvm.Lit.constHeld Z "com/example/task_relay/taskrelay/Scope" 60) (Xo395 : Ext Z.heap T368.heap) (hcw : Jvm.Lit.compactW.before a0 Z = true) (hne : ¬ (wR = wF)) P368E P368C P368V P368B (P183_0 : ¬ (c_183 < 0) ∧ ¬ ((255 : Int32) < c_183)) (P184_0 : ¬ (c_184 < 0) ∧ ¬ ((255 : Int32) < c_184)) (P185_0 : ¬ (c_185 < 0) ∧ ¬ ((255 : Int32) < c_185)) (P186_0 : ¬ (c_186 < 0) ∧ ¬ ((255 : Int32) < c_186))) hZ (hw _ (List.mem_of_getElem? (i := 19) rfl)) (hw _ (List.mem_of_getElem? (i := 13) rfl)) (by decide) (by decide)) qa398 qc398 (g := (mkF m 302 #[.val (.int p0), .val (.int p1), .val (.int p2), .val (.int p3), .val (.int p4), .val (.int (0 : Int32)), .val (.int (4 : Int32)), .val (.int c_183), .val (.int c_184), .val (.int c_185), .val (.int c_186), .val (.ref b344), .val (.ref wR), .val (.int (0 : Int32)), .val (.int (0 : Int32)), .val (.int (0 : Int32))] [(.ref b344), (.ref wR)])) rfl (by rw [hml]; rfl) (Steps.refl _) (argsL := [(.ref b344)]) (rest := []) (lenOf pd_2 rfl) rfl (by show 2 * 0 + _ ≤ _; exact Nat.le_of_eq rfl) (hb hby at_302) (fun _ Hw => ⟨rfl, e378, (by decide : 3 + 4 ≤ _), (by decide : 12 + 36 ≤ _), own_IBw hI Hw⟩)
              dsimp only [Pt.U, Pt.locs, Pt.cells, Pt.slots] at Y398 hY398 gY398 l398 y398 z398 st398 hQ398
              subst l398 y398 z398
              obtain ⟨X398, hS398, hZ398, hw398⟩ := rebS (s := s) (vm0 := s.vm) hS0 (by omega : h0.size ≤ T378.heap.size) Y398 hY398 gY398 hZ hown
              obtain ⟨rfl, N398q, K398⟩ := hQ398
              have N398 := Fr.app N368 N398q
              have z401 := K398.1
              have KC402 : Keep h0 T398.heap [] := KC374.trans K398 all0
              obtain ⟨fs, hr, hrun, hended, rE1, rE2, rE3, rE4⟩ := leaveW (s := s) (vm₁ := T398.vm) X398 hS398 (by omega : T398.heap.size ≤ T398.heap.size) (v := some (.int (1 : Int32))) (fun h => by rw [Bd.returns] at h; cases h)
              refine ⟨_, _, pre385 _ ?_, hrun, hended, _, _, rfl, ?_, rE1, rE2, rE3, rE4.mono (by decide) (by decide)⟩
              · show Steps p.tables e below (T378.setTop (mkF m 266 #[.val (.int p0), .val (.int p1), .val (.int p2), .val (.int p3), .val (.int p4), .val (.int (0 : Int32)), .val (.int (4 : Int32)), .val (.int c_183), .val (.int c_184), .val (.int c_185), .val (.int c_186), .val (.ref b344), .val (.ref wR), .val (.int (0 : Int32)), .unset, .unset] [(.int (68 : Int32)), (.int c_186)])) _
                refine XS.icmpYes X378.here hx rfl (pc0 := 266) (pc' := 273) rfl (hb hby at_266) rfl (feq (hc386 : ¬ (c_186 = (68 : Int32)))).2 (by decide) (by decide) ?_
                show Steps p.tables e below (T378.setTop (mkF m 273 #[.val (.int p0), .val (.int p1), .val (.int p2), .val (.int p3), .val (.int p4), .val (.int (0 : Int32)), .val (.int (4 : Int32)), .val (.int c_183), .val (.int c_184), .val (.int c_185), .val (.int c_186), .val (.ref b344), .val (.ref wR), .val (.int (0 : Int32)), .unset, .unset] [])) _
                refine XS.iconst X378.here hx rfl (hb hby at_273) ?_
                show Steps p.tables e below (T378.setTop (mkF m 274 #[.val (.int p0), .val (.int p1), .val (.int p2), .val (.int p3), .val (.int p4), .val (.int (0 : Int32)), .val (.int (4 : Int32)), .val (.int c_183), .val (.int c_184), .val (.int c_185), .val (.int c_186), .val (.ref b344), .val (.ref wR), .val (.int (0 : Int32)), .unset, .unset] [(.int (0 : Int32))])) _
                refine XS.istore X378.here hx rfl (hb hby at_274) rfl (l' := #[.val (.int p0), .val (.int p1), .val (.int p2), .val (.int p3), .val (.int p4), .val (.int (0 : Int32)), .val (.int (4 : Int32)), .val (.int c_183), .val (.int c_184), .val (.int c_185), .val (.int c_186), .val (.ref b344), .val (.ref wR), .val (.int (0 : Int32)), .val (.int (0 : Int32)), .unset]) rfl ?_
                show Steps p.tables e below (T378.setTop (mkF m 276 #[.val (.int p0), .val (.int p1), .val (.int p2), .val (.int p3), .val (.int p4), .val (.int (0 : Int32)), .val (.int (4 : Int32)), .val (.int c_183), .val (.int c_184), .val (.int c_185), .val (.int c_186), .val (.ref b344), .val (.ref wR), .val (.int (0 : Int32)), .val (.int (0 : Int32)), .unset] [])) _
                refine XS.iload X378.here hx rfl (hb hby at_276) rfl ?_
                show Steps p.tables e below (T378.setTop (mkF m 278 #[.val (.int p0), .val (.int p1), .val (.int p2), .val (.int p3), .val (.int p4), .val (.int (0 : Int32)), .val (.int (4 : Int32)), .val (.int c_183), .val (.int c_184), .val (.int c_185), .val (.int c_186), .val (.ref b344), .val (.ref wR), .val (.int (0 : Int32)), .val (.int (0 : Int32)), .unset] [(.int (0 : Int32))])) _
                refine XS.ifNo X378.here hx rfl (hb hby at_278) rfl ((if0 _ _).trans (teq (by decide : (0 : Int32) = (0 : Int32))).2) ?_
                show Steps p.tables e below (T378.setTop (mkF m 281 #[.val (.int p0), .val (.int p1), .val (.int p2), .val (.int p3), .val (.int p4), .val (.int (0 : Int32)), .val (.int (4 : Int32)), .val (.int c_183), .val (.int c_184), .val (.int c_185), .val (.int c_186), .val (.ref b344), .val (.ref wR), .val (.int (0 : Int32)), .val (.int (0 : Int32)), .unset] [])) _
                refine XS.iload X378.here hx rfl (hb hby at_281) rfl ?_
                show Steps p.tables e below (T378.setTop (mkF m 283 #[.val (.int p0), .val (.int p1), .val (.int p2), .val (.int p3), .val (.int p4), .val (.int (0 : Int32)), .val (.int (4 : Int32)), .val (.int c_183), .val (.int c_184), .val (.int c_185), .val (.int c_186), .val (.ref b344), .val (.ref wR), .val (.int (0 : Int32)), .val (.int (0 : Int32)), .unset] [(.int (0 : Int32))])) _
                refine XS.ifNo X378.here hx rfl (hb hby at_283) rfl ((if0 _ _).trans (teq (by decide : (0 : Int32) = (0 : Int32))).2) ?_
                show Steps p.tables e below (T378.setTop (mkF m 286 #[.val (.int p0), .val (.int p1), .val (.int p2), .val (.int p3), .val (.int p4), .val (.int (0 : Int32)), .val (.int (4 : Int32)), .val (.int c_183), .val (.int c_184), .val (.int c_185), .val (.int c_186), .val (.ref b344), .val (.ref wR), .val (.int (0 : Int32)), .val (.int (0 : Int32)), .unset] [])) _
                refine XS.iload X378.here hx rfl (hb hby at_286) rfl ?_
                show Steps p.tables e below (T378.setTop (mkF m 288 #[.val (.int p0), .val (.int p1), .val (.int p2), .val (.int p3), .val (.int p4), .val (.int (0 : Int32)), .val (.int (4 : Int32)), .val (.int c_183), .val (.int c_184), .val (.int c_185), .val (.int c_186), .val (.ref b344), .val (.ref wR), .val (.int (0 : Int32)), .val (.int (0 : Int32)), .unset] [(.int (0 : Int32))])) _
                refine XS.ifYes X378.here hx rfl (pc0 := 288) (pc' := 295) rfl (hb hby at_288) rfl ((if0 _ _).trans (teq (by decide : (0 : Int32) = (0 : Int32))).1) (by decide) (by decide) ?_
                show Steps p.tables e below (T378.setTop (mkF m 295 #[.val (.int p0), .val (.int p1), .val (.int p2), .val (.int p3), .val (.int p4), .val (.int (0 : Int32)), .val (.int (4 : Int32)), .val (.int c_183), .val (.int c_184), .val (.int c_185), .val (.int c_186), .val (.ref b344), .val (.ref wR), .val (.int (0 : Int32)), .val (.int (0 : Int32)), .unset] [])) _
                refine XS.iconst X378.here hx rfl (hb hby at_295) ?_
                show Steps p.tables e below (T378.setTop (mkF m 296 #[.val (.int p0), .val (.int p1), .val (.int p2), .val (.int p3), .val (.int p4), .val (.int (0 : Int32)), .val (.int (4 : Int32)), .val (.int c_183), .val (.int c_184), .val (.int c_185), .val (.int c_186), .val (.ref b344), .val (.ref wR), .val (.int (0 : Int32)), .val (.int (0 : Int32)), .unset] [(.int (0 : Int32))])) _
                refine XS.istore X378.here hx rfl (hb hby at_296) rfl (l' := #[.val (.int p0), .val (.int p1), .val (.int p2), .val (.int p3), .val (.int p4), .val (.int (0 : Int32)), .val (.int (4 : Int32)), .val (.int c_183), .val (.int c_184), .val (.int c_185), .val (.int c_186), .val (.ref b344), .val (.ref wR), .val (.int (0 : Int32)), .val (.int (0 : Int32)), .val (.int (0 : Int32))]) rfl ?_
                show Steps p.tables e below (T378.setTop (mkF m 298 #[.val (.int p0), .val (.int p1), .val (.int p2), .val (.int p3), .val (.int p4), .val (.int (0 : Int32)), .val (.int (4 : Int32)), .val (.int c_183), .val (.int c_184), .val (.int c_185), .val (.int c_186), .val (.ref b344), .val (.ref wR), .val (.int (0 : Int32)), .val (.int (0 : Int32)), .val (.int (0 : Int32))] [])) _
                refine XS.aload X378.here hx rfl (hb hby at_298) rfl rfl ?_
                show Steps p.tables e below (T378.setTop (mkF m 300 #[.val (.int p0), .val (.int p1), .val (.int p2), .val (.int p3), .val (.int p4), .val (.int (0 : Int32)), .val (.int (4 : Int32)), .val (.int c_183), .val (.int c_184), .val (.int c_185), .val (.int c_186), .val (.ref b344), .val (.ref wR), .val (.int (0 : Int32)), .val (.int (0 : Int32)), .val (.int (0 : Int32))] [(.ref wR)])) _
                refine XS.aload X378.here hx rfl (hb hby at_300) rfl rfl ?_
                show Steps p.tables e below (T378.setTop (mkF m 302 #[.val (.int p0), .val (.int p1), .val (.int p2), .val (.int p3), .val (.int p4), .val (.int (0 : Int32)), .val (.int (4 : Int32)), .val (.int c_183), .val (.int c_184), .val (.int c_185), .val (.int c_186), .val (.ref b344), .val (.ref wR), .val (.int (0 : Int32)), .val (.int (0 : Int32)), .val (.int (0 : Int32))] [(.ref b344), (.ref wR)])) _
                refine st398.trans ?_
                show Steps p.tables e below (T398.setTop (mkF m 305 #[.val (.int p0), .val (.int p1), .val (.int p2), .val (.int p3), .val (.int p4), .val (.int (0 : Int32)), .val (.int (4 : Int32)), .val (.int c_183), .val (.int c_184), .val (.int c_185), .val (.int c_186), .val (.ref b344), .val (.ref wR), .val (.int (0 : Int32)), .val (.int (0 : Int32)), .val (.int (0 : Int32))] [(.int (bi (([c_183, c_184, c_185, c_186] : List Int32) = ([(72 : Int32), (69 : Int32), (65 : Int32), (68 : Int32)] : List Int32))))])) _
                refine XS.iload X398.here hx rfl (hb hby at_305) rfl ?_
                show Steps p.tables e below (T398.setTop (mkF m 307 #[.val (.int p0), .val (.int p1), .val (.int p2), .val (.int p3), .val (.int p4), .val (.int (0 : Int32)), .val (.int (4 : Int32)), .val (.int c_183), .val (.int c_184), .val (.int c_185), .val (.int c_186), .val (.ref b344), .val (.ref wR), .val (.int (0 : Int32)), .val (.int (0 : Int32)), .val (.int (0 : Int32))] [(.int (0 : Int32)), (.int (bi (([c_183, c_184, c_185, c_186] : List Int32) = ([(72 : Int32), (69 : Int32), (65 : Int32), (68 : Int32)] : List Int32))))])) _
                refine XS.icmpNo X398.here hx rfl (hb hby at_307) rfl (teq ((bi_f (by simp [hc386])) : (bi (([c_183, c_184, c_185, c_186] : List Int32) = ([(72 : Int32), (69 : Int32), (65 : Int32), (68 : Int32)] : List Int32))) = (0 : Int32))).2 ?_
                show Steps p.tables e below (T398.setTop (mkF m 310 #[.val (.int p0), .val (.int p1), .val (.int p2), .val (.int p3), .val (.int p4), .val (.int (0 : Int32)), .val (.int (4 : Int32)), .val (.int c_183), .val (.int c_184), .val (.int c_185), .val (.int c_186), .val (.ref b344), .val (.ref wR), .val (.int (0 : Int32)), .val (.int (0 : Int32)), .val (.int (0 : Int32))] [])) _
                refine XS.iconst X398.here hx rfl (hb hby at_310) ?_
                show Steps p.tables e below (T398.setTop (mkF m 311 #[.val (.int p0), .val (.int p1), .val (.int p2), .val (.int p3), .val (.int p4), .val (.int (0 : Int32)), .val (.int (4 : Int32)), .val (.int c_183), .val (.int c_184), .val (.int c_185), .val (.int c_186), .val (.ref b344), .val (.ref wR), .val (.int (0 : Int32)), .val (.int (0 : Int32)), .val (.int (0 : Int32))] [(.int (1 : Int32))])) _
                refine XS.goto X398.here hx rfl (pc0 := 311) (pc' := 315) rfl (hb hby at_311) (by decide) (by decide) ?_
                show Steps p.tables e below (T398.setTop (mkF m 315 #[.val (.int p0), .val (.int p1), .val (.int p2), .val (.int p3), .val (.int p4), .val (.int (0 : Int32)), .val (.int (4 : Int32)), .val (.int c_183), .val (.int c_184), .val (.int c_185), .val (.int c_186), .val (.ref b344), .val (.ref wR), .val (.int (0 : Int32)), .val (.int (0 : Int32)), .val (.int (0 : Int32))] [(.int (1 : Int32))])) _
                exact retN X398 hx (t := .boolean) Bd.returns (by simp) (hb hby at_315) hr
              · show Qrm0 Z p0 p1 p2 p3 p4 wF wR G1 h0 n0 _ T398.heap _
                exact ⟨rfl, (fun y hy => Nat.le_trans Z0 (N398 y hy)), KC402⟩
          · have Xo403 : Ext Z.heap T368.heap := own_extT X00 (own_ext KC374)
            have Fc404 := (own_staK ((((((H0.ext E344).ext E348).wr W353).wr W357).wr W361).wr W365) K368 (allS ⟨_, Fc369⟩ all0))
            have Fc405 := (own_staK Fc372 K368 (allS ⟨_, Fc369⟩ all0))
            have z407 := congrArg Array.size e378
            have Fc408 := (((((((H3.ext E344).ext E348).wr W353).wr W357).wr W361).wr W365).keep K368)
            obtain ⟨cq406, kq406, qa406, qb406, qc406⟩ := isOf hZ e378 Fc408
            obtain ⟨_, _, ⟨T406, L406, k406, n406⟩, -, Y406, hY406, gY406, ⟨Lc406, hQ406, l406, y406, z406⟩, st406⟩ := X378.virtualBackS hx (y := (⟨"com/example/task_relay/taskrelay/Scope", "allows", "(Ljava/lang/String;)Z"⟩ : MethodName)) (z := (⟨"com/example/task_relay/taskrelay/Scope", "allows", "(Ljava/lang/String;)Z"⟩ : MethodName)) hown (mvT hZ (hw _ (List.mem_of_getElem? (i := 15) rfl))) (mvT hZ (hw _ (List.mem_of_getElem? (i := 16) rfl))) (notFace_of_selects (args := #[]) (mvT hZ (hw _ (List.mem_of_getElem? (i := 18) rfl)))) (mvT hZ (hw _ (List.mem_of_getElem? (i := 18) rfl))) (mvT hZ (hw _ (List.mem_of_getElem? (i := 17) rfl))) (by decide) (backOfI (W := 0) (rmar4 l Z a0 hw [] wR b344 wF G1 bv368 kb368 c_183 c_184 c_185 c_186 T368.heap h0.size (by omega) Fc404 Fc405 (hG1 : ¬ (G1 = (0 : Int32))) (hh58 : Jvm.Lit.constHeld Z "com/example/task_relay/taskrelay/Scope" 58) (hh60 : Jvm.Lit.constHeld Z "com/example/task_relay/taskrelay/Scope" 60) (Xo403 : Ext Z.heap T368.heap) (hcw : Jvm.Lit.compactW.before a0 Z = true) (hne : ¬ (wR = wF)) P368E P368C P368V P368B (P183_0 : ¬ (c_183 < 0) ∧ ¬ ((255 : Int32) < c_183)) (P184_0 : ¬ (c_184 < 0) ∧ ¬ ((255 : Int32) < c_184)) (P185_0 : ¬ (c_185 < 0) ∧ ¬ ((255 : Int32) < c_185)) (P186_0 : ¬ (c_186 < 0) ∧ ¬ ((255 : Int32) < c_186))) hZ (hw _ (List.mem_of_getElem? (i := 19) rfl)) (hw _ (List.mem_of_getElem? (i := 13) rfl)) (by decide) (by decide)) qa406 qc406 (g := (mkF m 302 #[.val (.int p0), .val (.int p1), .val (.int p2), .val (.int p3), .val (.int p4), .val (.int (0 : Int32)), .val (.int (4 : Int32)), .val (.int c_183), .val (.int c_184), .val (.int c_185), .val (.int c_186), .val (.ref b344), .val (.ref wR), .val (.int (0 : Int32)), .val (.int (0 : Int32)), .val (.int (0 : Int32))] [(.ref b344), (.ref wR)])) rfl (by rw [hml]; rfl) (Steps.refl _) (argsL := [(.ref b344)]) (rest := []) (lenOf pd_2 rfl) rfl (by show 2 * 0 + _ ≤ _; exact Nat.le_of_eq rfl) (hb hby at_302) (fun _ Hw => ⟨rfl, e378, (by decide : 3 + 4 ≤ _), (by decide : 12 + 36 ≤ _), own_IBw hI Hw⟩)
            dsimp only [Pt.U, Pt.locs, Pt.cells, Pt.slots] at Y406 hY406 gY406 l406 y406 z406 st406 hQ406
            subst l406 y406 z406
            obtain ⟨X406, hS406, hZ406, hw406⟩ := rebS (s := s) (vm0 := s.vm) hS0 (by omega : h0.size ≤ T378.heap.size) Y406 hY406 gY406 hZ hown
            obtain ⟨rfl, N406q, K406⟩ := hQ406
            have N406 := Fr.app N368 N406q
            have z409 := K406.1
            have KC410 : Keep h0 T406.heap [] := KC374.trans K406 all0
            obtain ⟨fs, hr, hrun, hended, rE1, rE2, rE3, rE4⟩ := leaveW (s := s) (vm₁ := T406.vm) X406 hS406 (by omega : T406.heap.size ≤ T406.heap.size) (v := some (.int (1 : Int32))) (fun h => by rw [Bd.returns] at h; cases h)
            refine ⟨_, _, pre383 _ ?_, hrun, hended, _, _, rfl, ?_, rE1, rE2, rE3, rE4.mono (by decide) (by decide)⟩
            · show Steps p.tables e below (T378.setTop (mkF m 259 #[.val (.int p0), .val (.int p1), .val (.int p2), .val (.int p3), .val (.int p4), .val (.int (0 : Int32)), .val (.int (4 : Int32)), .val (.int c_183), .val (.int c_184), .val (.int c_185), .val (.int c_186), .val (.ref b344), .val (.ref wR), .val (.int (0 : Int32)), .unset, .unset] [(.int (65 : Int32)), (.int c_185)])) _
              refine XS.icmpYes X378.here hx rfl (pc0 := 259) (pc' := 273) rfl (hb hby at_259) rfl (feq (hc384 : ¬ (c_185 = (65 : Int32)))).2 (by decide) (by decide) ?_
              show Steps p.tables e below (T378.setTop (mkF m 273 #[.val (.int p0), .val (.int p1), .val (.int p2), .val (.int p3), .val (.int p4), .val (.int (0 : Int32)), .val (.int (4 : Int32)), .val (.int c_183), .val (.int c_184), .val (.int c_185), .val (.int c_186), .val (.ref b344), .val (.ref wR), .val (.int (0 : Int32)), .unset, .unset] [])) _
              refine XS.iconst X378.here hx rfl (hb hby at_273) ?_
              show Steps p.tables e below (T378.setTop (mkF m 274 #[.val (.int p0), .val (.int p1), .val (.int p2), .val (.int p3), .val (.int p4), .val (.int (0 : Int32)), .val (.int (4 : Int32)), .val (.int c_183), .val (.int c_184), .val (.int c_185), .val (.int c_186), .val (.ref b344), .val (.ref wR), .val (.int (0 : Int32)), .unset, .unset] [(.int (0 : Int32))])) _
              refine XS.istore X378.here hx rfl (hb hby at_274) rfl (l' := #[.val (.int p0), .val (.int p1), .val (.int p2), .val (.int p3), .val (.int p4), .val (.int (0 : Int32)), .val (.int (4 : Int32)), .val (.int c_183), .val (.int c_184), .val (.int c_185), .val (.int c_186), .val (.ref b344), .val (.ref wR), .val (.int (0 : Int32)), .val (.int (0 : Int32)), .unset]) rfl ?_
              show Steps p.tables e below (T378.setTop (mkF m 276 #[.val (.int p0), .val (.int p1), .val (.int p2), .val (.int p3), .val (.int p4), .val (.int (0 : Int32)), .val (.int (4 : Int32)), .val (.int c_183), .val (.int c_184), .val (.int c_185), .val (.int c_186), .val (.ref b344), .val (.ref wR), .val (.int (0 : Int32)), .val (.int (0 : Int32)), .unset] [])) _
              refine XS.iload X378.here hx rfl (hb hby at_276) rfl ?_
              show Steps p.tables e below (T378.setTop (mkF m 278 #[.val (.int p0), .val (.int p1), .val (.int p2), .val (.int p3), .val (.int p4), .val (.int (0 : Int32)), .val (.int (4 : Int32)), .val (.int c_183), .val (.int c_184), .val (.int c_185), .val (.int c_186), .val (.ref b344), .val (.ref wR), .val (.int (0 : Int32)), .val (.int (0 : Int32)), .unset] [(.int (0 : Int32))])) _
              refine XS.ifNo X378.here hx rfl (hb hby at_278) rfl ((if0 _ _).trans (teq (by decide : (0 : Int32) = (0 : Int32))).2) ?_
              show Steps p.tables e below (T378.setTop (mkF m 281 #[.val (.int p0), .val (.int p1), .val (.int p2), .val (.int p3), .val (.int p4), .val (.int (0 : Int32)), .val (.int (4 : Int32)), .val (.int c_183), .val (.int c_184), .val (.int c_185), .val (.int c_186), .val (.ref b344), .val (.ref wR), .val (.int (0 : Int32)), .val (.int (0 : Int32)), .unset] [])) _
              refine XS.iload X378.here hx rfl (hb hby at_281) rfl ?_
              show Steps p.tables e below (T378.setTop (mkF m 283 #[.val (.int p0), .val (.int p1), .val (.int p2), .val (.int p3), .val (.int p4), .val (.int (0 : Int32)), .val (.int (4 : Int32)), .val (.int c_183), .val (.int c_184), .val (.int c_185), .val (.int c_186), .val (.ref b344), .val (.ref wR), .val (.int (0 : Int32)), .val (.int (0 : Int32)), .unset] [(.int (0 : Int32))])) _
              refine XS.ifNo X378.here hx rfl (hb hby at_283) rfl ((if0 _ _).trans (teq (by decide : (0 : Int32) = (0 : Int32))).2) ?_
              show Steps p.tables e below (T378.setTop (mkF m 286 #[.val (.int p0), .val (.int p1), .val (.int p2), .val (.int p3), .val (.int p4), .val (.int (0 : Int32)), .val (.int (4 : Int32)), .val (.int c_183), .val (.int c_184), .val (.int c_185), .val (.int c_186), .val (.ref b344), .val (.ref wR), .val (.int (0 : Int32)), .val (.int (0 : Int32)), .unset] [])) _
              refine XS.iload X378.here hx rfl (hb hby at_286) rfl ?_
              show Steps p.tables e below (T378.setTop (mkF m 288 #[.val (.int p0), .val (.int p1), .val (.int p2), .val (.int p3), .val (.int p4), .val (.int (0 : Int32)), .val (.int (4 : Int32)), .val (.int c_183), .val (.int c_184), .val (.int c_185), .val (.int c_186), .val (.ref b344), .val (.ref wR), .val (.int (0 : Int32)), .val (.int (0 : Int32)), .unset] [(.int (0 : Int32))])) _
              refine XS.ifYes X378.here hx rfl (pc0 := 288) (pc' := 295) rfl (hb hby at_288) rfl ((if0 _ _).trans (teq (by decide : (0 : Int32) = (0 : Int32))).1) (by decide) (by decide) ?_
              show Steps p.tables e below (T378.setTop (mkF m 295 #[.val (.int p0), .val (.int p1), .val (.int p2), .val (.int p3), .val (.int p4), .val (.int (0 : Int32)), .val (.int (4 : Int32)), .val (.int c_183), .val (.int c_184), .val (.int c_185), .val (.int c_186), .val (.ref b344), .val (.ref wR), .val (.int (0 : Int32)), .val (.int (0 : Int32)), .unset] [])) _
              refine XS.iconst X378.here hx rfl (hb hby at_295) ?_
              show Steps p.tables e below (T378.setTop (mkF m 296 #[.val (.int p0), .val (.int p1), .val (.int p2), .val (.int p3), .val (.int p4), .val (.int (0 : Int32)), .val (.int (4 : Int32)), .val (.int c_183), .val (.int c_184), .val (.int c_185), .val (.int c_186), .val (.ref b344), .val (.ref wR), .val (.int (0 : Int32)), .val (.int (0 : Int32)), .unset] [(.int (0 : Int32))])) _
              refine XS.istore X378.here hx rfl (hb hby at_296) rfl (l' := #[.val (.int p0), .val (.int p1), .val (.int p2), .val (.int p3), .val (.int p4), .val (.int (0 : Int32)), .val (.int (4 : Int32)), .val (.int c_183), .val (.int c_184), .val (.int c_185), .val (.int c_186), .val (.ref b344), .val (.ref wR), .val (.int (0 : Int32)), .val (.int (0 : Int32)), .val (.int (0 : Int32))]) rfl ?_
              show Steps p.tables e below (T378.setTop (mkF m 298 #[.val (.int p0), .val (.int p1), .val (.int p2), .val (.int p3), .val (.int p4), .val (.int (0 : Int32)), .val (.int (4 : Int32)), .val (.int c_183), .val (.int c_184), .val (.int c_185), .val (.int c_186), .val (.ref b344), .val (.ref wR), .val (.int (0 : Int32)), .val (.int (0 : Int32)), .val (.int (0 : Int32))] [])) _
              refine XS.aload X378.here hx rfl (hb hby at_298) rfl rfl ?_
              show Steps p.tables e below (T378.setTop (mkF m 300 #[.val (.int p0), .val (.int p1), .val (.int p2), .val (.int p3), .val (.int p4), .val (.int (0 : Int32)), .val (.int (4 : Int32)), .val (.int c_183), .val (.int c_184), .val (.int c_185), .val (.int c_186), .val (.ref b344), .val (.ref wR), .val (.int (0 : Int32)), .val (.int (0 : Int32)), .val (.int (0 : Int32))] [(.ref wR)])) _
              refine XS.aload X378.here hx rfl (hb hby at_300) rfl rfl ?_
              show Steps p.tables e below (T378.setTop (mkF m 302 #[.val (.int p0), .val (.int p1), .val (.int p2), .val (.int p3), .val (.int p4), .val (.int (0 : Int32)), .val (.int (4 : Int32)), .val (.int c_183), .val (.int c_184), .val (.int c_185), .val (.int c_186), .val (.ref b344), .val (.ref wR), .val (.int (0 : Int32)), .val (.int (0 : Int32)), .val (.int (0 : Int32))] [(.ref b344), (.ref wR)])) _
              refine st406.trans ?_
              show Steps p.tables e below (T406.setTop (mkF m 305 #[.val (.int p0), .val (.int p1), .val (.int p2), .val (.int p3), .val (.int p4), .val (.int (0 : Int32)), .val (.int (4 : Int32)), .val (.int c_183), .val (.int c_184), .val (.int c_185), .val (.int c_186), .val (.ref b344), .val (.ref wR), .val (.int (0 : Int32)), .val (.int (0 : Int32)), .val (.int (0 : Int32))] [(.int (bi (([c_183, c_184, c_185, c_186] : List Int32) = ([(72 : Int32), (69 : Int32), (65 : Int32), (68 : Int32)] : List Int32))))])) _
              refine XS.iload X406.here hx rfl (hb hby at_305) rfl ?_
              show Steps p.tables e below (T406.setTop (mkF m 307 #[.val (.int p0), .val (.int p1), .val (.int p2), .val (.int p3), .val (.int p4), .val (.int (0 : Int32)), .val (.int (4 : Int32)), .val (.int c_183), .val (.int c_184), .val (.int c_185), .val (.int c_186), .val (.ref b344), .val (.ref wR), .val (.int (0 : Int32)), .val (.int (0 : Int32)), .val (.int (0 : Int32))] [(.int (0 : Int32)), (.int (bi (([c_183, c_184, c_185, c_186] : List Int32) = ([(72 : Int32), (69 : Int32), (65 : Int32), (68 : Int32)] : List Int32))))])) _
              refine XS.icmpNo X406.here hx rfl (hb hby at_307) rfl (teq ((bi_f (by simp [hc384])) : (bi (([c_183, c_184, c_185, c_186] : List Int32) = ([(72 : Int32), (69 : Int32), (65 : Int32), (68 : Int32)] : List Int32))) = (0 : Int32))).2 ?_
              show Steps p.tables e below (T406.setTop (mkF m 310 #[.val (.int p0), .val (.int p1), .val (.int p2), .val (.int p3), .val (.int p4), .val (.int (0 : Int32)), .val (.int (4 : Int32)), .val (.int c_183), .val (.int c_184), .val (.int c_185), .val (.int c_186), .val (.ref b344), .val (.ref wR), .val (.int (0 : Int32)), .val (.int (0 : Int32)), .val (.int (0 : Int32))] [])) _
              refine XS.iconst X406.here hx rfl (hb hby at_310) ?_
              show Steps p.tables e below (T406.setTop (mkF m 311 #[.val (.int p0), .val (.int p1), .val (.int p2), .val (.int p3), .val (.int p4), .val (.int (0 : Int32)), .val (.int (4 : Int32)), .val (.int c_183), .val (.int c_184), .val (.int c_185), .val (.int c_186), .val (.ref b344), .val (.ref wR), .val (.int (0 : Int32)), .val (.int (0 : Int32)), .val (.int (0 : Int32))] [(.int (1 : Int32))])) _
              refine XS.goto X406.here hx rfl (pc0 := 311) (pc' := 315) rfl (hb hby at_311) (by decide) (by decide) ?_
              show Steps p.tables e below (T406.setTop (mkF m 315 #[.val (.int p0), .val (.int p1), .val (.int p2), .val (.int p3), .val (.int p4), .val (.int (0 : Int32)), .val (.int (4 : Int32)), .val (.int c_183), .val (.int c_184), .val (.int c_185), .val (.int c_186), .val (.ref b344), .val (.ref wR), .val (.int (0 : Int32)), .val (.int (0 : Int32)), .val (.int (0 : Int32))] [(.int (1 : Int32))])) _
              exact retN X406 hx (t := .boolean) Bd.returns (by simp) (hb hby at_315) hr
            · show Qrm0 Z p0 p1 p2 p3 p4 wF wR G1 h0 n0 _ T406.heap _
              exact ⟨rfl, (fun y hy => Nat.le_trans Z0 (N406 y hy)), KC410⟩
        · have Xo411 : Ext Z.heap T368.heap := own_extT X00 (own_ext KC374)
          have Fc412 := (own_staK ((((((H0.ext E344).ext E348).wr W353).wr W357).wr W361).wr W365) K368 (allS ⟨_, Fc369⟩ all0))
          have Fc413 := (own_staK Fc372 K368 (allS ⟨_, Fc369⟩ all0))
          have z415 := congrArg Array.size e378
          have Fc416 := (((((((H3.ext E344).ext E348).wr W353).wr W357).wr W361).wr W365).keep K368)
          obtain ⟨cq414, kq414, qa414, qb414, qc414⟩ := isOf hZ e378 Fc416
          obtain ⟨_, _, ⟨T414, L414, k414, n414⟩, -, Y414, hY414, gY414, ⟨Lc414, hQ414, l414, y414, z414⟩, st414⟩ := X378.virtualBackS hx (y := (⟨"com/example/task_relay/taskrelay/Scope", "allows", "(Ljava/lang/String;)Z"⟩ : MethodName)) (z := (⟨"com/example/task_relay/taskrelay/Scope", "allows", "(Ljava/lang/String;)Z"⟩ : MethodName)) hown (mvT hZ (hw _ (List.mem_of_getElem? (i := 15) rfl))) (mvT hZ (hw _ (List.mem_of_getElem? (i := 16) rfl))) (notFace_of_selects (args := #[]) (mvT hZ (hw _ (List.mem_of_getElem? (i := 18) rfl)))) (mvT hZ (hw _ (List.mem_of_getElem? (i := 18) rfl))) (mvT hZ (hw _ (List.mem_of_getElem? (i := 17) rfl))) (by decide) (backOfI (W := 0) (rmar4 l Z a0 hw [] wR b344 wF G1 bv368 kb368 c_183 c_184 c_185 c_186 T368.heap h0.size (by omega) Fc412 Fc413 (hG1 : ¬ (G1 = (0 : Int32))) (hh58 : Jvm.Lit.constHeld Z "com/example/task_relay/taskrelay/Scope" 58) (hh60 : Jvm.Lit.constHeld Z "com/example/task_relay/taskrelay/Scope" 60) (Xo411 : Ext Z.heap T368.heap) (hcw : Jvm.Lit.compactW.before a0 Z = true) (hne : ¬ (wR = wF)) P368E P368C P368V P368B (P183_0 : ¬ (c_183 < 0) ∧ ¬ ((255 : Int32) < c_183)) (P184_0 : ¬ (c_184 < 0) ∧ ¬ ((255 : Int32) < c_184)) (P185_0 : ¬ (c_185 < 0) ∧ ¬ ((255 : Int32) < c_185)) (P186_0 : ¬ (c_186 < 0) ∧ ¬ ((255 : Int32) < c_186))) hZ (hw _ (List.mem_of_getElem? (i := 19) rfl)) (hw _ (List.mem_of_getElem? (i := 13) rfl)) (by decide) (by decide)) qa414 qc414 (g := (mkF m 302 #[.val (.int p0), .val (.int p1), .val (.int p2), .val (.int p3), .val (.int p4), .val (.int (0 : Int32)), .val (.int (4 : Int32)), .val (.int c_183), .val (.int c_184), .val (.int c_185), .val (.int c_186), .val (.ref b344), .val (.ref wR), .val (.int (0 : Int32)), .val (.int (0 : Int32)), .val (.int (0 : Int32))] [(.ref b344), (.ref wR)])) rfl (by rw [hml]; rfl) (Steps.refl _) (argsL := [(.ref b344)]) (rest := []) (lenOf pd_2 rfl) rfl (by show 2 * 0 + _ ≤ _; exact Nat.le_of_eq rfl) (hb hby at_302) (fun _ Hw => ⟨rfl, e378, (by decide : 3 + 4 ≤ _), (by decide : 12 + 36 ≤ _), own_IBw hI Hw⟩)
          dsimp only [Pt.U, Pt.locs, Pt.cells, Pt.slots] at Y414 hY414 gY414 l414 y414 z414 st414 hQ414
          subst l414 y414 z414
          obtain ⟨X414, hS414, hZ414, hw414⟩ := rebS (s := s) (vm0 := s.vm) hS0 (by omega : h0.size ≤ T378.heap.size) Y414 hY414 gY414 hZ hown
          obtain ⟨rfl, N414q, K414⟩ := hQ414
          have N414 := Fr.app N368 N414q
          have z417 := K414.1
          have KC418 : Keep h0 T414.heap [] := KC374.trans K414 all0
          obtain ⟨fs, hr, hrun, hended, rE1, rE2, rE3, rE4⟩ := leaveW (s := s) (vm₁ := T414.vm) X414 hS414 (by omega : T414.heap.size ≤ T414.heap.size) (v := some (.int (1 : Int32))) (fun h => by rw [Bd.returns] at h; cases h)
          refine ⟨_, _, pre381 _ ?_, hrun, hended, _, _, rfl, ?_, rE1, rE2, rE3, rE4.mono (by decide) (by decide)⟩
          · show Steps p.tables e below (T378.setTop (mkF m 252 #[.val (.int p0), .val (.int p1), .val (.int p2), .val (.int p3), .val (.int p4), .val (.int (0 : Int32)), .val (.int (4 : Int32)), .val (.int c_183), .val (.int c_184), .val (.int c_185), .val (.int c_186), .val (.ref b344), .val (.ref wR), .val (.int (0 : Int32)), .unset, .unset] [(.int (69 : Int32)), (.int c_184)])) _
            refine XS.icmpYes X378.here hx rfl (pc0 := 252) (pc' := 273) rfl (hb hby at_252) rfl (feq (hc382 : ¬ (c_184 = (69 : Int32)))).2 (by decide) (by decide) ?_
            show Steps p.tables e below (T378.setTop (mkF m 273 #[.val (.int p0), .val (.int p1), .val (.int p2), .val (.int p3), .val (.int p4), .val (.int (0 : Int32)), .val (.int (4 : Int32)), .val (.int c_183), .val (.int c_184), .val (.int c_185), .val (.int c_186), .val (.ref b344), .val (.ref wR), .val (.int (0 : Int32)), .unset, .unset] [])) _
            refine XS.iconst X378.here hx rfl (hb hby at_273) ?_
            show Steps p.tables e below (T378.setTop (mkF m 274 #[.val (.int p0), .val (.int p1), .val (.int p2), .val (.int p3), .val (.int p4), .val (.int (0 : Int32)), .val (.int (4 : Int32)), .val (.int c_183), .val (.int c_184), .val (.int c_185), .val (.int c_186), .val (.ref b344), .val (.ref wR), .val (.int (0 : Int32)), .unset, .unset] [(.int (0 : Int32))])) _
            refine XS.istore X378.here hx rfl (hb hby at_274) rfl (l' := #[.val (.int p0), .val (.int p1), .val (.int p2), .val (.int p3), .val (.int p4), .val (.int (0 : Int32)), .val (.int (4 : Int32)), .val (.int c_183), .val (.int c_184), .val (.int c_185), .val (.int c_186), .val (.ref b344), .val (.ref wR), .val (.int (0 : Int32)), .val (.int (0 : Int32)), .unset]) rfl ?_
            show Steps p.tables e below (T378.setTop (mkF m 276 #[.val (.int p0), .val (.int p1), .val (.int p2), .val (.int p3), .val (.int p4), .val (.int (0 : Int32)), .val (.int (4 : Int32)), .val (.int c_183), .val (.int c_184), .val (.int c_185), .val (.int c_186), .val (.ref b344), .val (.ref wR), .val (.int (0 : Int32)), .val (.int (0 : Int32)), .unset] [])) _
            refine XS.iload X378.here hx rfl (hb hby at_276) rfl ?_
            show Steps p.tables e below (T378.setTop (mkF m 278 #[.val (.int p0), .val (.int p1), .val (.int p2), .val (.int p3), .val (.int p4), .val (.int (0 : Int32)), .val (.int (4 : Int32)), .val (.int c_183), .val (.int c_184), .val (.int c_185), .val (.int c_186), .val (.ref b344), .val (.ref wR), .val (.int (0 : Int32)), .val (.int (0 : Int32)), .unset] [(.int (0 : Int32))])) _
            refine XS.ifNo X378.here hx rfl (hb hby at_278) rfl ((if0 _ _).trans (teq (by decide : (0 : Int32) = (0 : Int32))).2) ?_
            show Steps p.tables e below (T378.setTop (mkF m 281 #[.val (.int p0), .val (.int p1), .val (.int p2), .val (.int p3), .val (.int p4), .val (.int (0 : Int32)), .val (.int (4 : Int32)), .val (.int c_183), .val (.int c_184), .val (.int c_185), .val (.int c_186), .val (.ref b344), .val (.ref wR), .val (.int (0 : Int32)), .val (.int (0 : Int32)), .unset] [])) _
            refine XS.iload X378.here hx rfl (hb hby at_281) rfl ?_
            show Steps p.tables e below (T378.setTop (mkF m 283 #[.val (.int p0), .val (.int p1), .val (.int p2), .val (.int p3), .val (.int p4), .val (.int (0 : Int32)), .val (.int (4 : Int32)), .val (.int c_183), .val (.int c_184), .val (.int c_185), .val (.int c_186), .val (.ref b344), .val (.ref wR), .val (.int (0 : Int32)), .val (.int (0 : Int32)), .unset] [(.int (0 : Int32))])) _
            refine XS.ifNo X378.here hx rfl (hb hby at_283) rfl ((if0 _ _).trans (teq (by decide : (0 : Int32) = (0 : Int32))).2) ?_
            show Steps p.tables e below (T378.setTop (mkF m 286 #[.val (.int p0), .val (.int p1), .val (.int p2), .val (.int p3), .val (.int p4), .val (.int (0 : Int32)), .val (.int (4 : Int32)), .val (.int c_183), .val (.int c_184), .val (.int c_185), .val (.int c_186), .val (.ref b344), .val (.ref wR), .val (.int (0 : Int32)), .val (.int (0 : Int32)), .unset] [])) _
            refine XS.iload X378.here hx rfl (hb hby at_286) rfl ?_
            show Steps p.tables e below (T378.setTop (mkF m 288 #[.val (.int p0), .val (.int p1), .val (.int p2), .val (.int p3), .val (.int p4), .val (.int (0 : Int32)), .val (.int (4 : Int32)), .val (.int c_183), .val (.int c_184), .val (.int c_185), .val (.int c_186), .val (.ref b344), .val (.ref wR), .val (.int (0 : Int32)), .val (.int (0 : Int32)), .unset] [(.int (0 : Int32))])) _
            refine XS.ifYes X378.here hx rfl (pc0 := 288) (pc' := 295) rfl (hb hby at_288) rfl ((if0 _ _).trans (teq (by decide : (0 : Int32) = (0 : Int32))).1) (by decide) (by decide) ?_
            show Steps p.tables e below (T378.setTop (mkF m 295 #[.val (.int p0), .val (.int p1), .val (.int p2), .val (.int p3), .val (.int p4), .val (.int (0 : Int32)), .val (.int (4 : Int32)), .val (.int c_183), .val (.int c_184), .val (.int c_185), .val (.int c_186), .val (.ref b344), .val (.ref wR), .val (.int (0 : Int32)), .val (.int (0 : Int32)), .unset] [])) _
            refine XS.iconst X378.here hx rfl (hb hby at_295) ?_
            show Steps p.tables e below (T378.setTop (mkF m 296 #[.val (.int p0), .val (.int p1), .val (.int p2), .val (.int p3), .val (.int p4), .val (.int (0 : Int32)), .val (.int (4 : Int32)), .val (.int c_183), .val (.int c_184), .val (.int c_185), .val (.int c_186), .val (.ref b344), .val (.ref wR), .val (.int (0 : Int32)), .val (.int (0 : Int32)), .unset] [(.int (0 : Int32))])) _
            refine XS.istore X378.here hx rfl (hb hby at_296) rfl (l' := #[.val (.int p0), .val (.int p1), .val (.int p2), .val (.int p3), .val (.int p4), .val (.int (0 : Int32)), .val (.int (4 : Int32)), .val (.int c_183), .val (.int c_184), .val (.int c_185), .val (.int c_186), .val (.ref b344), .val (.ref wR), .val (.int (0 : Int32)), .val (.int (0 : Int32)), .val (.int (0 : Int32))]) rfl ?_
            show Steps p.tables e below (T378.setTop (mkF m 298 #[.val (.int p0), .val (.int p1), .val (.int p2), .val (.int p3), .val (.int p4), .val (.int (0 : Int32)), .val (.int (4 : Int32)), .val (.int c_183), .val (.int c_184), .val (.int c_185), .val (.int c_186), .val (.ref b344), .val (.ref wR), .val (.int (0 : Int32)), .val (.int (0 : Int32)), .val (.int (0 : Int32))] [])) _
            refine XS.aload X378.here hx rfl (hb hby at_298) rfl rfl ?_
            show Steps p.tables e below (T378.setTop (mkF m 300 #[.val (.int p0), .val (.int p1), .val (.int p2), .val (.int p3), .val (.int p4), .val (.int (0 : Int32)), .val (.int (4 : Int32)), .val (.int c_183), .val (.int c_184), .val (.int c_185), .val (.int c_186), .val (.ref b344), .val (.ref wR), .val (.int (0 : Int32)), .val (.int (0 : Int32)), .val (.int (0 : Int32))] [(.ref wR)])) _
            refine XS.aload X378.here hx rfl (hb hby at_300) rfl rfl ?_
            show Steps p.tables e below (T378.setTop (mkF m 302 #[.val (.int p0), .val (.int p1), .val (.int p2), .val (.int p3), .val (.int p4), .val (.int (0 : Int32)), .val (.int (4 : Int32)), .val (.int c_183), .val (.int c_184), .val (.int c_185), .val (.int c_186), .val (.ref b344), .val (.ref wR), .val (.int (0 : Int32)), .val (.int (0 : Int32)), .val (.int (0 : Int32))] [(.ref b344), (.ref wR)])) _
            refine st414.trans ?_
            show Steps p.tables e below (T414.setTop (mkF m 305 #[.val (.int p0), .val (.int p1), .val (.int p2), .val (.int p3), .val (.int p4), .val (.int (0 : Int32)), .val (.int (4 : Int32)), .val (.int c_183), .val (.int c_184), .val (.int c_185), .val (.int c_186), .val (.ref b344), .val (.ref wR), .val (.int (0 : Int32)), .val (.int (0 : Int32)), .val (.int (0 : Int32))] [(.int (bi (([c_183, c_184, c_185, c_186] : List Int32) = ([(72 : Int32), (69 : Int32), (65 : Int32), (68 : Int32)] : List Int32))))])) _
            refine XS.iload X414.here hx rfl (hb hby at_305) rfl ?_
            show Steps p.tables e below (T414.setTop (mkF m 307 #[.val (.int p0), .val (.int p1), .val (.int p2), .val (.int p3), .val (.int p4), .val (.int (0 : Int32)), .val (.int (4 : Int32)), .val (.int c_183), .val (.int c_184), .val (.int c_185), .val (.int c_186), .val (.ref b344), .val (.ref wR), .val (.int (0 : Int32)), .val (.int (0 : Int32)), .val (.int (0 : Int32))] [(.int (0 : Int32)), (.int (bi (([c_183, c_184, c_185, c_186] : List Int32) = ([(72 : Int32), (69 : Int32), (65 : Int32), (68 : Int32)] : List Int32))))])) _
            refine XS.icmpNo X414.here hx rfl (hb hby at_307) rfl (teq ((bi_f (by simp [hc382])) : (bi (([c_183, c_184, c_185, c_186] : List Int32) = ([(72 : Int32), (69 : Int32), (65 : Int32), (68 : Int32)] : List Int32))) = (0 : Int32))).2 ?_
            show Steps p.tables e below (T414.setTop (mkF m 310 #[.val (.int p0), .val (.int p1), .val (.int p2), .val (.int p3), .val (.int p4), .val (.int (0 : Int32)), .val (.int (4 : Int32)), .val (.int c_183), .val (.int c_184), .val (.int c_185), .val (.int c_186), .val (.ref b344), .val (.ref wR), .val (.int (0 : Int32)), .val (.int (0 : Int32)), .val (.int (0 : Int32))] [])) _
            refine XS.iconst X414.here hx rfl (hb hby at_310) ?_
            show Steps p.tables e below (T414.setTop (mkF m 311 #[.val (.int p0), .val (.int p1), .val (.int p2), .val (.int p3), .val (.int p4), .val (.int (0 : Int32)), .val (.int (4 : Int32)), .val (.int c_183), .val (.int c_184), .val (.int c_185), .val (.int c_186), .val (.ref b344), .val (.ref wR), .val (.int (0 : Int32)), .val (.int (0 : Int32)), .val (.int (0 : Int32))] [(.int (1 : Int32))])) _
            refine XS.goto X414.here hx rfl (pc0 := 311) (pc' := 315) rfl (hb hby at_311) (by decide) (by decide) ?_
            show Steps p.tables e below (T414.setTop (mkF m 315 #[.val (.int p0), .val (.int p1), .val (.int p2), .val (.int p3), .val (.int p4), .val (.int (0 : Int32)), .val (.int (4 : Int32)), .val (.int c_183), .val (.int c_184), .val (.int c_185), .val (.int c_186), .val (.ref b344), .val (.ref wR), .val (.int (0 : Int32)), .val (.int (0 : Int32)), .val (.int (0 : Int32))] [(.int (1 : Int32))])) _
            exact retN X414 hx (t := .boolean) Bd.returns (by simp) (hb hby at_315) hr
          · show Qrm0 Z p0 p1 p2 p3 p4 wF wR G1 h0 n0 _ T414.heap _
            exact ⟨rfl, (fun y hy => Nat.le_trans Z0 (N414 y hy)), KC418⟩
      · have Xo419 : Ext Z.heap T368.heap := own_extT X00 (own_ext KC374)
        have Fc420 := (own_staK ((((((H0.ext E344).ext E348).wr W353).wr W357).wr W361).wr W365) K368 (allS ⟨_, Fc369⟩ all0))
        have Fc421 := (own_staK Fc372 K368 (allS ⟨_, Fc369⟩ all0))
        have z423 := congrArg Array.size e378
        have Fc424 := (((((((H3.ext E344).ext E348).wr W353).wr W357).wr W361).wr W365).keep K368)
        obtain ⟨cq422, kq422, qa422, qb422, qc422⟩ := isOf hZ e378 Fc424
        obtain ⟨_, _, ⟨T422, L422, k422, n422⟩, -, Y422, hY422, gY422, ⟨Lc422, hQ422, l422, y422, z422⟩, st422⟩ := X378.virtualBackS hx (y := (⟨"com/example/task_relay/taskrelay/Scope", "allows", "(Ljava/lang/String;)Z"⟩ : MethodName)) (z := (⟨"com/example/task_relay/taskrelay/Scope", "allows", "(Ljava/lang/String;)Z"⟩ : MethodName)) hown (mvT hZ (hw _ (List.mem_of_getElem? (i := 15) rfl))) (mvT hZ (hw _ (List.mem_of_getElem? (i := 16) rfl))) (notFace_of_selects (args := #[]) (mvT hZ (hw _ (List.mem_of_getElem? (i := 18) rfl)))) (mvT hZ (hw _ (List.mem_of_getElem? (i := 18) rfl))) (mvT hZ (hw _ (List.mem_of_getElem? (i := 17) rfl))) (by decide) (backOfI (W := 0) (rmar4 l Z a0 hw [] wR b344 wF G1 bv368 kb368 c_183 c_184 c_185 c_186 T368.heap h0.size (by omega) Fc420 Fc421 (hG1 : ¬ (G1 = (0 : Int32))) (hh58 : Jvm.Lit.constHeld Z "com/example/task_relay/taskrelay/Scope" 58) (hh60 : Jvm.Lit.constHeld Z "com/example/task_relay/taskrelay/Scope" 60) (Xo419 : Ext Z.heap T368.heap) (hcw : Jvm.Lit.compactW.before a0 Z = true) (hne : ¬ (wR = wF)) P368E P368C P368V P368B (P183_0 : ¬ (c_183 < 0) ∧ ¬ ((255 : Int32) < c_183)) (P184_0 : ¬ (c_184 < 0) ∧ ¬ ((255 : Int32) < c_184)) (P185_0 : ¬ (c_185 < 0) ∧ ¬ ((255 : Int32) < c_185)) (P186_0 : ¬ (c_186 < 0) ∧ ¬ ((255 : Int32) < c_186))) hZ (hw _ (List.mem_of_getElem? (i := 19) rfl)) (hw _ (List.mem_of_getElem? (i := 13) rfl)) (by decide) (by decide)) qa422 qc422 (g := (mkF m 302 #[.val (.int p0), .val (.int p1), .val (.int p2), .val (.int p3), .val (.int p4), .val (.int (0 : Int32)), .val (.int (4 : Int32)), .val (.int c_183), .val (.int c_184), .val (.int c_185), .val (.int c_186), .val (.ref b344), .val (.ref wR), .val (.int (0 : Int32)), .val (.int (0 : Int32)), .val (.int (0 : Int32))] [(.ref b344), (.ref wR)])) rfl (by rw [hml]; rfl) (Steps.refl _) (argsL := [(.ref b344)]) (rest := []) (lenOf pd_2 rfl) rfl (by show 2 * 0 + _ ≤ _; exact Nat.le_of_eq rfl) (hb hby at_302) (fun _ Hw => ⟨rfl, e378, (by decide : 3 + 4 ≤ _), (by decide : 12 + 36 ≤ _), own_IBw hI Hw⟩)
        dsimp only [Pt.U, Pt.locs, Pt.cells, Pt.slots] at Y422 hY422 gY422 l422 y422 z422 st422 hQ422
        subst l422 y422 z422
        obtain ⟨X422, hS422, hZ422, hw422⟩ := rebS (s := s) (vm0 := s.vm) hS0 (by omega : h0.size ≤ T378.heap.size) Y422 hY422 gY422 hZ hown
        obtain ⟨rfl, N422q, K422⟩ := hQ422
        have N422 := Fr.app N368 N422q
        have z425 := K422.1
        have KC426 : Keep h0 T422.heap [] := KC374.trans K422 all0
        obtain ⟨fs, hr, hrun, hended, rE1, rE2, rE3, rE4⟩ := leaveW (s := s) (vm₁ := T422.vm) X422 hS422 (by omega : T422.heap.size ≤ T422.heap.size) (v := some (.int (1 : Int32))) (fun h => by rw [Bd.returns] at h; cases h)
        refine ⟨_, _, pre379 _ ?_, hrun, hended, _, _, rfl, ?_, rE1, rE2, rE3, rE4.mono (by decide) (by decide)⟩
        · show Steps p.tables e below (T378.setTop (mkF m 245 #[.val (.int p0), .val (.int p1), .val (.int p2), .val (.int p3), .val (.int p4), .val (.int (0 : Int32)), .val (.int (4 : Int32)), .val (.int c_183), .val (.int c_184), .val (.int c_185), .val (.int c_186), .val (.ref b344), .val (.ref wR), .val (.int (0 : Int32)), .unset, .unset] [(.int (72 : Int32)), (.int c_183)])) _
          refine XS.icmpYes X378.here hx rfl (pc0 := 245) (pc' := 273) rfl (hb hby at_245) rfl (feq (hc380 : ¬ (c_183 = (72 : Int32)))).2 (by decide) (by decide) ?_
          show Steps p.tables e below (T378.setTop (mkF m 273 #[.val (.int p0), .val (.int p1), .val (.int p2), .val (.int p3), .val (.int p4), .val (.int (0 : Int32)), .val (.int (4 : Int32)), .val (.int c_183), .val (.int c_184), .val (.int c_185), .val (.int c_186), .val (.ref b344), .val (.ref wR), .val (.int (0 : Int32)), .unset, .unset] [])) _
          refine XS.iconst X378.here hx rfl (hb hby at_273) ?_
          show Steps p.tables e below (T378.setTop (mkF m 274 #[.val (.int p0), .val (.int p1), .val (.int p2), .val (.int p3), .val (.int p4), .val (.int (0 : Int32)), .val (.int (4 : Int32)), .val (.int c_183), .val (.int c_184), .val (.int c_185), .val (.int c_186), .val (.ref b344), .val (.ref wR), .val (.int (0 : Int32)), .unset, .unset] [(.int (0 : Int32))])) _
          refine XS.istore X378.here hx rfl (hb hby at_274) rfl (l' := #[.val (.int p0), .val (.int p1), .val (.int p2), .val (.int p3), .val (.int p4), .val (.int (0 : Int32)), .val (.int (4 : Int32)), .val (.int c_183), .val (.int c_184), .val (.int c_185), .val (.int c_186), .val (.ref b344), .val (.ref wR), .val (.int (0 : Int32)), .val (.int (0 : Int32)), .unset]) rfl ?_
          show Steps p.tables e below (T378.setTop (mkF m 276 #[.val (.int p0), .val (.int p1), .val (.int p2), .val (.int p3), .val (.int p4), .val (.int (0 : Int32)), .val (.int (4 : Int32)), .val (.int c_183), .val (.int c_184), .val (.int c_185), .val (.int c_186), .val (.ref b344), .val (.ref wR), .val (.int (0 : Int32)), .val (.int (0 : Int32)), .unset] [])) _
          refine XS.iload X378.here hx rfl (hb hby at_276) rfl ?_
          show Steps p.tables e below (T378.setTop (mkF m 278 #[.val (.int p0), .val (.int p1), .val (.int p2), .val (.int p3), .val (.int p4), .val (.int (0 : Int32)), .val (.int (4 : Int32)), .val (.int c_183), .val (.int c_184), .val (.int c_185), .val (.int c_186), .val (.ref b344), .val (.ref wR), .val (.int (0 : Int32)), .val (.int (0 : Int32)), .unset] [(.int (0 : Int32))])) _
          refine XS.ifNo X378.here hx rfl (hb hby at_278) rfl ((if0 _ _).trans (teq (by decide : (0 : Int32) = (0 : Int32))).2) ?_
          show Steps p.tables e below (T378.setTop (mkF m 281 #[.val (.int p0), .val (.int p1), .val (.int p2), .val (.int p3), .val (.int p4), .val (.int (0 : Int32)), .val (.int (4 : Int32)), .val (.int c_183), .val (.int c_184), .val (.int c_185), .val (.int c_186), .val (.ref b344), .val (.ref wR), .val (.int (0 : Int32)), .val (.int (0 : Int32)), .unset] [])) _
          refine XS.iload X378.here hx rfl (hb hby at_281) rfl ?_
          show Steps p.tables e below (T378.setTop (mkF m 283 #[.val (.int p0), .val (.int p1), .val (.int p2), .val (.int p3), .val (.int p4), .val (.int (0 : Int32)), .val (.int (4 : Int32)), .val (.int c_183), .val (.int c_184), .val (.int c_185), .val (.int c_186), .val (.ref b344), .val (.ref wR), .val (.int (0 : Int32)), .val (.int (0 : Int32)), .unset] [(.int (0 : Int32))])) _
          refine XS.ifNo X378.here hx rfl (hb hby at_283) rfl ((if0 _ _).trans (teq (by decide : (0 : Int32) = (0 : Int32))).2) ?_
          show Steps p.tables e below (T378.setTop (mkF m 286 #[.val (.int p0), .val (.int p1), .val (.int p2), .val (.int p3), .val (.int p4), .val (.int (0 : Int32)), .val (.int (4 : Int32)), .val (.int c_183), .val (.int c_184), .val (.int c_185), .val (.int c_186), .val (.ref b344), .val (.ref wR), .val (.int (0 : Int32)), .val (.int (0 : Int32)), .unset] [])) _
          refine XS.iload X378.here hx rfl (hb hby at_286) rfl ?_
          show Steps p.tables e below (T378.setTop (mkF m 288 #[.val (.int p0), .val (.int p1), .val (.int p2), .val (.int p3), .val (.int p4), .val (.int (0 : Int32)), .val (.int (4 : Int32)), .val (.int c_183), .val (.int c_184), .val (.int c_185), .val (.int c_186), .val (.ref b344), .val (.ref wR), .val (.int (0 : Int32)), .val (.int (0 : Int32)), .unset] [(.int (0 : Int32))])) _
          refine XS.ifYes X378.here hx rfl (pc0 := 288) (pc' := 295) rfl (hb hby at_288) rfl ((if0 _ _).trans (teq (by decide : (0 : Int32) = (0 : Int32))).1) (by decide) (by decide) ?_
          show Steps p.tables e below (T378.setTop (mkF m 295 #[.val (.int p0), .val (.int p1), .val (.int p2), .val (.int p3), .val (.int p4), .val (.int (0 : Int32)), .val (.int (4 : Int32)), .val (.int c_183), .val (.int c_184), .val (.int c_185), .val (.int c_186), .val (.ref b344), .val (.ref wR), .val (.int (0 : Int32)), .val (.int (0 : Int32)), .unset] [])) _
          refine XS.iconst X378.here hx rfl (hb hby at_295) ?_
          show Steps p.tables e below (T378.setTop (mkF m 296 #[.val (.int p0), .val (.int p1), .val (.int p2), .val (.int p3), .val (.int p4), .val (.int (0 : Int32)), .val (.int (4 : Int32)), .val (.int c_183), .val (.int c_184), .val (.int c_185), .val (.int c_186), .val (.ref b344), .val (.ref wR), .val (.int (0 : Int32)), .val (.int (0 : Int32)), .unset] [(.int (0 : Int32))])) _
          refine XS.istore X378.here hx rfl (hb hby at_296) rfl (l' := #[.val (.int p0), .val (.int p1), .val (.int p2), .val (.int p3), .val (.int p4), .val (.int (0 : Int32)), .val (.int (4 : Int32)), .val (.int c_183), .val (.int c_184), .val (.int c_185), .val (.int c_186), .val (.ref b344), .val (.ref wR), .val (.int (0 : Int32)), .val (.int (0 : Int32)), .val (.int (0 : Int32))]) rfl ?_
          show Steps p.tables e below (T378.setTop (mkF m 298 #[.val (.int p0), .val (.int p1), .val (.int p2), .val (.int p3), .val (.int p4), .val (.int (0 : Int32)), .val (.int (4 : Int32)), .val (.int c_183), .val (.int c_184), .val (.int c_185), .val (.int c_186), .val (.ref b344), .val (.ref wR), .val (.int (0 : Int32)), .val (.int (0 : Int32)), .val (.int (0 : Int32))] [])) _
          refine XS.aload X378.here hx rfl (hb hby at_298) rfl rfl ?_
          show Steps p.tables e below (T378.setTop (mkF m 300 #[.val (.int p0), .val (.int p1), .val (.int p2), .val (.int p3), .val (.int p4), .val (.int (0 : Int32)), .val (.int (4 : Int32)), .val (.int c_183), .val (.int c_184), .val (.int c_185), .val (.int c_186), .val (.ref b344), .val (.ref wR), .val (.int (0 : Int32)), .val (.int (0 : Int32)), .val (.int (0 : Int32))] [(.ref wR)])) _
          refine XS.aload X378.here hx rfl (hb hby at_300) rfl rfl ?_
          show Steps p.tables e below (T378.setTop (mkF m 302 #[.val (.int p0), .val (.int p1), .val (.int p2), .val (.int p3), .val (.int p4), .val (.int (0 : Int32)), .val (.int (4 : Int32)), .val (.int c_183), .val (.int c_184), .val (.int c_185), .val (.int c_186), .val (.ref b344), .val (.ref wR), .val (.int (0 : Int32)), .val (.int (0 : Int32)), .val (.int (0 : Int32))] [(.ref b344), (.ref wR)])) _
          refine st422.trans ?_
          show Steps p.tables e below (T422.setTop (mkF m 305 #[.val (.int p0), .val (.int p1), .val (.int p2), .val (.int p3), .val (.int p4), .val (.int (0 : Int32)), .val (.int (4 : Int32)), .val (.int c_183), .val (.int c_184), .val (.int c_185), .val (.int c_186), .val (.ref b344), .val (.ref wR), .val (.int (0 : Int32)), .val (.int (0 : Int32)), .val (.int (0 : Int32))] [(.int (bi (([c_183, c_184, c_185, c_186] : List Int32) = ([(72 : Int32), (69 : Int32), (65 : Int32), (68 : Int32)] : List Int32))))])) _
          refine XS.iload X422.here hx rfl (hb hby at_305) rfl ?_
          show Steps p.tables e below (T422.setTop (mkF m 307 #[.val (.int p0), .val (.int p1), .val (.int p2), .val (.int p3), .val (.int p4), .val (.int (0 : Int32)), .val (.int (4 : Int32)), .val (.int c_183), .val (.int c_184), .val (.int c_185), .val (.int c_186), .val (.ref b344), .val (.ref wR), .val (.int (0 : Int32)), .val (.int (0 : Int32)), .val (.int (0 : Int32))] [(.int (0 : Int32)), (.int (bi (([c_183, c_184, c_185, c_186] : List Int32) = ([(72 : Int32), (69 : Int32), (65 : Int32), (68 : Int32)] : List Int32))))])) _
          refine XS.icmpNo X422.here hx rfl (hb hby at_307) rfl (teq ((bi_f (by simp [hc380])) : (bi (([c_183, c_184, c_185, c_186] : List Int32) = ([(72 : Int32), (69 : Int32), (65 : Int32), (68 : Int32)] : List Int32))) = (0 : Int32))).2 ?_
          show Steps p.tables e below (T422.setTop (mkF m 310 #[.val (.int p0), .val (.int p1), .val (.int p2), .val (.int p3), .val (.int p4), .val (.int (0 : Int32)), .val (.int (4 : Int32)), .val (.int c_183), .val (.int c_184), .val (.int c_185), .val (.int c_186), .val (.ref b344), .val (.ref wR), .val (.int (0 : Int32)), .val (.int (0 : Int32)), .val (.int (0 : Int32))] [])) _
          refine XS.iconst X422.here hx rfl (hb hby at_310) ?_
          show Steps p.tables e below (T422.setTop (mkF m 311 #[.val (.int p0), .val (.int p1), .val (.int p2), .val (.int p3), .val (.int p4), .val (.int (0 : Int32)), .val (.int (4 : Int32)), .val (.int c_183), .val (.int c_184), .val (.int c_185), .val (.int c_186), .val (.ref b344), .val (.ref wR), .val (.int (0 : Int32)), .val (.int (0 : Int32)), .val (.int (0 : Int32))] [(.int (1 : Int32))])) _
          refine XS.goto X422.here hx rfl (pc0 := 311) (pc' := 315) rfl (hb hby at_311) (by decide) (by decide) ?_
          show Steps p.tables e below (T422.setTop (mkF m 315 #[.val (.int p0), .val (.int p1), .val (.int p2), .val (.int p3), .val (.int p4), .val (.int (0 : Int32)), .val (.int (4 : Int32)), .val (.int c_183), .val (.int c_184), .val (.int c_185), .val (.int c_186), .val (.ref b344), .val (.ref wR), .val (.int (0 : Int32)), .val (.int (0 : Int32)), .val (.int (0 : Int32))] [(.int (1 : Int32))])) _
          exact retN X422 hx (t := .boolean) Bd.returns (by simp) (hb hby at_315) hr
        · show Qrm0 Z p0 p1 p2 p3 p4 wF wR G1 h0 n0 _ T422.heap _
          exact ⟨rfl, (fun y hy => Nat.le_trans Z0 (N422 y hy)), KC426⟩
  · obtain ⟨_, _, ⟨T427, L427, k427, n427⟩, -, X427, ⟨Lc427, hQ427, l427, y427, z427⟩, st427⟩ := Jvm.LawKit.callS X0 hx (y := (⟨"com/example/task_relay/taskrelay/ScopeAllowsPinLaw", "pick", "(I)C"⟩ : MethodName)) hown (mvT hZ (hw _ (List.mem_of_getElem? (i := 0) rfl))) (mvT hZ (hw _ (List.mem_of_getElem? (i := 1) rfl))) (mvT hZ (hw _ (List.mem_of_getElem? (i := 2) rfl))) (mvT hZ (hw _ (List.mem_of_getElem? (i := 3) rfl))) (by decide) (backOf (W := 0) (rmp l Z a0 hw [] p1 h0 h0.size (by omega)) hZ (hw _ (List.mem_of_getElem? (i := 3) rfl)) (hw _ (List.mem_of_getElem? (i := 2) rfl)) (by decide) (by decide)) (g := (mkF m 24 #[.val (.int p0), .val (.int p1), .val (.int p2), .val (.int p3), .val (.int p4), .val (.int (1 : Int32)), .val (.int ((((p0.toUInt32 >>> ((1 : Int32) &&& 31).toUInt32).toInt32) &&& (7 : Int32)) % (5 : Int32))), .unset, .unset, .unset, .unset, .unset, .unset, .unset, .unset, .unset] [(.int p1)])) rfl (by rw [hml]; rfl) (argsL := [(.int p1)]) (rest := []) (lenOf pd_1 rfl) rfl (by show 2 * 0 + _ ≤ _; exact Nat.le_of_eq rfl) (hb hby at_24) (fun _ _ => ⟨rfl, e0, (by decide : 0 + 0 ≤ _), (by decide : 0 + 0 ≤ _)⟩)
    dsimp only [Pt.U, Pt.locs, Pt.cells, Pt.slots] at X427 l427 y427 z427 st427 hQ427
    subst l427 y427 z427
    obtain ⟨c_427, rfl, N427q, e427, P427_0, P427_1⟩ := hQ427
    have N427 := Fr.app N0 N427q
    obtain ⟨_, _, ⟨T428, L428, k428, n428⟩, -, X428, ⟨Lc428, hQ428, l428, y428, z428⟩, st428⟩ := Jvm.LawKit.callS X427 hx (y := (⟨"com/example/task_relay/taskrelay/ScopeAllowsPinLaw", "pick", "(I)C"⟩ : MethodName)) hown (mvT hZ (hw _ (List.mem_of_getElem? (i := 0) rfl))) (mvT hZ (hw _ (List.mem_of_getElem? (i := 1) rfl))) (mvT hZ (hw _ (List.mem_of_getElem? (i := 2) rfl))) (mvT hZ (hw _ (List.mem_of_getElem? (i := 3) rfl))) (by decide) (backOf (W := 0) (rmp l Z a0 hw [] p2 h0 h0.size (by omega)) hZ (hw _ (List.mem_of_getElem? (i := 3) rfl)) (hw _ (List.mem_of_getElem? (i := 2) rfl)) (by decide) (by decide)) (g := (mkF m 30 #[.val (.int p0), .val (.int p1), .val (.int p2), .val (.int p3), .val (.int p4), .val (.int (1 : Int32)), .val (.int ((((p0.toUInt32 >>> ((1 : Int32) &&& 31).toUInt32).toInt32) &&& (7 : Int32)) % (5 : Int32))), .val (.int c_427), .unset, .unset, .unset, .unset, .unset, .unset, .unset, .unset] [(.int p2)])) rfl (by rw [hml]; rfl) (argsL := [(.int p2)]) (rest := []) (lenOf pd_1 rfl) rfl (by show 2 * 0 + _ ≤ _; exact Nat.le_of_eq rfl) (hb hby at_30) (fun _ _ => ⟨rfl, e427, (by decide : 0 + 0 ≤ _), (by decide : 0 + 0 ≤ _)⟩)
    dsimp only [Pt.U, Pt.locs, Pt.cells, Pt.slots] at X428 l428 y428 z428 st428 hQ428
    subst l428 y428 z428
    obtain ⟨c_428, rfl, N428q, e428, P428_0, P428_1⟩ := hQ428
    have N428 := Fr.app N427 N428q
    obtain ⟨_, _, ⟨T429, L429, k429, n429⟩, -, X429, ⟨Lc429, hQ429, l429, y429, z429⟩, st429⟩ := Jvm.LawKit.callS X428 hx (y := (⟨"com/example/task_relay/taskrelay/ScopeAllowsPinLaw", "pick", "(I)C"⟩ : MethodName)) hown (mvT hZ (hw _ (List.mem_of_getElem? (i := 0) rfl))) (mvT hZ (hw _ (List.mem_of_getElem? (i := 1) rfl))) (mvT hZ (hw _ (List.mem_of_getElem? (i := 2) rfl))) (mvT hZ (hw _ (List.mem_of_getElem? (i := 3) rfl))) (by decide) (backOf (W := 0) (rmp l Z a0 hw [] p3 h0 h0.size (by omega)) hZ (hw _ (List.mem_of_getElem? (i := 3) rfl)) (hw _ (List.mem_of_getElem? (i := 2) rfl)) (by decide) (by decide)) (g := (mkF m 36 #[.val (.int p0), .val (.int p1), .val (.int p2), .val (.int p3), .val (.int p4), .val (.int (1 : Int32)), .val (.int ((((p0.toUInt32 >>> ((1 : Int32) &&& 31).toUInt32).toInt32) &&& (7 : Int32)) % (5 : Int32))), .val (.int c_427), .val (.int c_428), .unset, .unset, .unset, .unset, .unset, .unset, .unset] [(.int p3)])) rfl (by rw [hml]; rfl) (argsL := [(.int p3)]) (rest := []) (lenOf pd_1 rfl) rfl (by show 2 * 0 + _ ≤ _; exact Nat.le_of_eq rfl) (hb hby at_36) (fun _ _ => ⟨rfl, e428, (by decide : 0 + 0 ≤ _), (by decide : 0 + 0 ≤ _)⟩)
    dsimp only [Pt.U, Pt.locs, Pt.cells, Pt.slots] at X429 l429 y429 z429 st429 hQ429
    subst l429 y429 z429
    obtain ⟨c_429, rfl, N429q, e429, P429_0, P429_1⟩ := hQ429
    have N429 := Fr.app N428 N429q
    obtain ⟨_, _, ⟨T430, L430, k430, n430⟩, -, X430, ⟨Lc430, hQ430, l430, y430, z430⟩, st430⟩ := Jvm.LawKit.callS X429 hx (y := (⟨"com/example/task_relay/taskrelay/ScopeAllowsPinLaw", "pick", "(I)C"⟩ : MethodName)) hown (mvT hZ (hw _ (List.mem_of_getElem? (i := 0) rfl))) (mvT hZ (hw _ (List.mem_of_getElem? (i := 1) rfl))) (mvT hZ (hw _ (List.mem_of_getElem? (i := 2) rfl))) (mvT hZ (hw _ (List.mem_of_getElem? (i := 3) rfl))) (by decide) (backOf (W := 0) (rmp l Z a0 hw [] p4 h0 h0.size (by omega)) hZ (hw _ (List.mem_of_getElem? (i := 3) rfl)) (hw _ (List.mem_of_getElem? (i := 2) rfl)) (by decide) (by decide)) (g := (mkF m 43 #[.val (.int p0), .val (.int p1), .val (.int p2), .val (.int p3), .val (.int p4), .val (.int (1 : Int32)), .val (.int ((((p0.toUInt32 >>> ((1 : Int32) &&& 31).toUInt32).toInt32) &&& (7 : Int32)) % (5 : Int32))), .val (.int c_427), .val (.int c_428), .val (.int c_429), .unset, .unset, .unset, .unset, .unset, .unset] [(.int p4)])) rfl (by rw [hml]; rfl) (argsL := [(.int p4)]) (rest := []) (lenOf pd_1 rfl) rfl (by show 2 * 0 + _ ≤ _; exact Nat.le_of_eq rfl) (hb hby at_43) (fun _ _ => ⟨rfl, e429, (by decide : 0 + 0 ≤ _), (by decide : 0 + 0 ≤ _)⟩)
    dsimp only [Pt.U, Pt.locs, Pt.cells, Pt.slots] at X430 l430 y430 z430 st430 hQ430
    subst l430 y430 z430
    obtain ⟨c_430, rfl, N430q, e430, P430_0, P430_1⟩ := hQ430
    have N430 := Fr.app N429 N430q
    have pre431 : ∀ t, Steps p.tables e below (T430.setTop (mkF m 48 #[.val (.int p0), .val (.int p1), .val (.int p2), .val (.int p3), .val (.int p4), .val (.int (1 : Int32)), .val (.int ((((p0.toUInt32 >>> ((1 : Int32) &&& 31).toUInt32).toInt32) &&& (7 : Int32)) % (5 : Int32))), .val (.int c_427), .val (.int c_428), .val (.int c_429), .val (.int c_430), .unset, .unset, .unset, .unset, .unset] [])) t → Steps p.tables e below (s₁.setTop (entryFrame m #[(.int p0), (.int p1), (.int p2), (.int p3), (.int p4)] maxLocals)) t := fun t k => by
      refine pre181 _ ?_
      show Steps p.tables e below (s₁.setTop (mkF m 3 #[.val (.int p0), .val (.int p1), .val (.int p2), .val (.int p3), .val (.int p4), .unset, .unset, .unset, .unset, .unset, .unset, .unset, .unset, .unset, .unset, .unset] [(.int (p0 &&& (1 : Int32)))])) _
      refine XS.ifNo X0.here hx rfl (hb hby at_3) rfl ((if0 _ _).trans (feq (hc182 : ¬ ((p0 &&& (1 : Int32)) = (0 : Int32)))).1) ?_
      show Steps p.tables e below (s₁.setTop (mkF m 6 #[.val (.int p0), .val (.int p1), .val (.int p2), .val (.int p3), .val (.int p4), .unset, .unset, .unset, .unset, .unset, .unset, .unset, .unset, .unset, .unset, .unset] [])) _
      refine XS.iconst X0.here hx rfl (hb hby at_6) ?_
      show Steps p.tables e below (s₁.setTop (mkF m 7 #[.val (.int p0), .val (.int p1), .val (.int p2), .val (.int p3), .val (.int p4), .unset, .unset, .unset, .unset, .unset, .unset, .unset, .unset, .unset, .unset, .unset] [(.int (1 : Int32))])) _
      refine XS.goto X0.here hx rfl (pc0 := 7) (pc' := 11) rfl (hb hby at_7) (by decide) (by decide) ?_
      show Steps p.tables e below (s₁.setTop (mkF m 11 #[.val (.int p0), .val (.int p1), .val (.int p2), .val (.int p3), .val (.int p4), .unset, .unset, .unset, .unset, .unset, .unset, .unset, .unset, .unset, .unset, .unset] [(.int (1 : Int32))])) _
      refine XS.istore X0.here hx rfl (hb hby at_11) rfl (l' := #[.val (.int p0), .val (.int p1), .val (.int p2), .val (.int p3), .val (.int p4), .val (.int (1 : Int32)), .unset, .unset, .unset, .unset, .unset, .unset, .unset, .unset, .unset, .unset]) rfl ?_
      show Steps p.tables e below (s₁.setTop (mkF m 13 #[.val (.int p0), .val (.int p1), .val (.int p2), .val (.int p3), .val (.int p4), .val (.int (1 : Int32)), .unset, .unset, .unset, .unset, .unset, .unset, .unset, .unset, .unset, .unset] [])) _
      refine XS.iloadN X0.here hx rfl (hb hby at_13) rfl ?_
      show Steps p.tables e below (s₁.setTop (mkF m 14 #[.val (.int p0), .val (.int p1), .val (.int p2), .val (.int p3), .val (.int p4), .val (.int (1 : Int32)), .unset, .unset, .unset, .unset, .unset, .unset, .unset, .unset, .unset, .unset] [(.int p0)])) _
      refine XS.iconst X0.here hx rfl (hb hby at_14) ?_
      show Steps p.tables e below (s₁.setTop (mkF m 15 #[.val (.int p0), .val (.int p1), .val (.int p2), .val (.int p3), .val (.int p4), .val (.int (1 : Int32)), .unset, .unset, .unset, .unset, .unset, .unset, .unset, .unset, .unset, .unset] [(.int (1 : Int32)), (.int p0)])) _
      refine XS.iushr X0.here hx rfl (hb hby at_15) rfl ?_
      show Steps p.tables e below (s₁.setTop (mkF m 16 #[.val (.int p0), .val (.int p1), .val (.int p2), .val (.int p3), .val (.int p4), .val (.int (1 : Int32)), .unset, .unset, .unset, .unset, .unset, .unset, .unset, .unset, .unset, .unset] [(.int ((p0.toUInt32 >>> ((1 : Int32) &&& 31).toUInt32).toInt32))])) _
      refine XS.bipush X0.here hx rfl (hb hby at_16) ?_
      show Steps p.tables e below (s₁.setTop (mkF m 18 #[.val (.int p0), .val (.int p1), .val (.int p2), .val (.int p3), .val (.int p4), .val (.int (1 : Int32)), .unset, .unset, .unset, .unset, .unset, .unset, .unset, .unset, .unset, .unset] [(.int (7 : Int32)), (.int ((p0.toUInt32 >>> ((1 : Int32) &&& 31).toUInt32).toInt32))])) _
      refine XS.iand X0.here hx rfl (hb hby at_18) rfl ?_
      show Steps p.tables e below (s₁.setTop (mkF m 19 #[.val (.int p0), .val (.int p1), .val (.int p2), .val (.int p3), .val (.int p4), .val (.int (1 : Int32)), .unset, .unset, .unset, .unset, .unset, .unset, .unset, .unset, .unset, .unset] [(.int (((p0.toUInt32 >>> ((1 : Int32) &&& 31).toUInt32).toInt32) &&& (7 : Int32)))])) _
      refine XS.iconst X0.here hx rfl (hb hby at_19) ?_
      show Steps p.tables e below (s₁.setTop (mkF m 20 #[.val (.int p0), .val (.int p1), .val (.int p2), .val (.int p3), .val (.int p4), .val (.int (1 : Int32)), .unset, .unset, .unset, .unset, .unset, .unset, .unset, .unset, .unset, .unset] [(.int (5 : Int32)), (.int (((p0.toUInt32 >>> ((1 : Int32) &&& 31).toUInt32).toInt32) &&& (7 : Int32)))])) _
      refine iremM (g := (mkF m 20 #[.val (.int p0), .val (.int p1), .val (.int p2), .val (.int p3), .val (.int p4), .val (.int (1 : Int32)), .unset, .unset, .unset, .unset, .unset, .unset, .unset, .unset, .unset, .unset] [(.int (5 : Int32)), (.int (((p0.toUInt32 >>> ((1 : Int32) &&& 31).toUInt32).toInt32) &&& (7 : Int32)))])) X0 hx rfl (hb hby at_20) rfl (by decide) ?_
      show Steps p.tables e below (s₁.setTop (mkF m 21 #[.val (.int p0), .val (.int p1), .val (.int p2), .val (.int p3), .val (.int p4), .val (.int (1 : Int32)), .unset, .unset, .unset, .unset, .unset, .unset, .unset, .unset, .unset, .unset] [(.int ((((p0.toUInt32 >>> ((1 : Int32) &&& 31).toUInt32).toInt32) &&& (7 : Int32)) % (5 : Int32)))])) _
      refine XS.istore X0.here hx rfl (hb hby at_21) rfl (l' := #[.val (.int p0), .val (.int p1), .val (.int p2), .val (.int p3), .val (.int p4), .val (.int (1 : Int32)), .val (.int ((((p0.toUInt32 >>> ((1 : Int32) &&& 31).toUInt32).toInt32) &&& (7 : Int32)) % (5 : Int32))), .unset, .unset, .unset, .unset, .unset, .unset, .unset, .unset, .unset]) rfl ?_
      show Steps p.tables e below (s₁.setTop (mkF m 23 #[.val (.int p0), .val (.int p1), .val (.int p2), .val (.int p3), .val (.int p4), .val (.int (1 : Int32)), .val (.int ((((p0.toUInt32 >>> ((1 : Int32) &&& 31).toUInt32).toInt32) &&& (7 : Int32)) % (5 : Int32))), .unset, .unset, .unset, .unset, .unset, .unset, .unset, .unset, .unset] [])) _
      refine XS.iloadN X0.here hx rfl (hb hby at_23) rfl ?_
      show Steps p.tables e below (s₁.setTop (mkF m 24 #[.val (.int p0), .val (.int p1), .val (.int p2), .val (.int p3), .val (.int p4), .val (.int (1 : Int32)), .val (.int ((((p0.toUInt32 >>> ((1 : Int32) &&& 31).toUInt32).toInt32) &&& (7 : Int32)) % (5 : Int32))), .unset, .unset, .unset, .unset, .unset, .unset, .unset, .unset, .unset] [(.int p1)])) _
      refine st427 _ ?_
      show Steps p.tables e below (T427.setTop (mkF m 27 #[.val (.int p0), .val (.int p1), .val (.int p2), .val (.int p3), .val (.int p4), .val (.int (1 : Int32)), .val (.int ((((p0.toUInt32 >>> ((1 : Int32) &&& 31).toUInt32).toInt32) &&& (7 : Int32)) % (5 : Int32))), .unset, .unset, .unset, .unset, .unset, .unset, .unset, .unset, .unset] [(.int c_427)])) _
      refine XS.istore X427.here hx rfl (hb hby at_27) rfl (l' := #[.val (.int p0), .val (.int p1), .val (.int p2), .val (.int p3), .val (.int p4), .val (.int (1 : Int32)), .val (.int ((((p0.toUInt32 >>> ((1 : Int32) &&& 31).toUInt32).toInt32) &&& (7 : Int32)) % (5 : Int32))), .val (.int c_427), .unset, .unset, .unset, .unset, .unset, .unset, .unset, .unset]) rfl ?_
      show Steps p.tables e below (T427.setTop (mkF m 29 #[.val (.int p0), .val (.int p1), .val (.int p2), .val (.int p3), .val (.int p4), .val (.int (1 : Int32)), .val (.int ((((p0.toUInt32 >>> ((1 : Int32) &&& 31).toUInt32).toInt32) &&& (7 : Int32)) % (5 : Int32))), .val (.int c_427), .unset, .unset, .unset, .unset, .unset, .unset, .unset, .unset] [])) _
      refine XS.iloadN X427.here hx rfl (hb hby at_29) rfl ?_
      show Steps p.tables e below (T427.setTop (mkF m 30 #[.val (.int p0), .val (.int p1), .val (.int p2), .val (.int p3), .val (.int p4), .val (.int (1 : Int32)), .val (.int ((((p0.toUInt32 >>> ((1 : Int32) &&& 31).toUInt32).toInt32) &&& (7 : Int32)) % (5 : Int32))), .val (.int c_427), .unset, .unset, .unset, .unset, .unset, .unset, .unset, .unset] [(.int p2)])) _
      refine st428 _ ?_
      show Steps p.tables e below (T428.setTop (mkF m 33 #[.val (.int p0), .val (.int p1), .val (.int p2), .val (.int p3), .val (.int p4), .val (.int (1 : Int32)), .val (.int ((((p0.toUInt32 >>> ((1 : Int32) &&& 31).toUInt32).toInt32) &&& (7 : Int32)) % (5 : Int32))), .val (.int c_427), .unset, .unset, .unset, .unset, .unset, .unset, .unset, .unset] [(.int c_428)])) _
      refine XS.istore X428.here hx rfl (hb hby at_33) rfl (l' := #[.val (.int p0), .val (.int p1), .val (.int p2), .val (.int p3), .val (.int p4), .val (.int (1 : Int32)), .val (.int ((((p0.toUInt32 >>> ((1 : Int32) &&& 31).toUInt32).toInt32) &&& (7 : Int32)) % (5 : Int32))), .val (.int c_427), .val (.int c_428), .unset, .unset, .unset, .unset, .unset, .unset, .unset]) rfl ?_
      show Steps p.tables e below (T428.setTop (mkF m 35 #[.val (.int p0), .val (.int p1), .val (.int p2), .val (.int p3), .val (.int p4), .val (.int (1 : Int32)), .val (.int ((((p0.toUInt32 >>> ((1 : Int32) &&& 31).toUInt32).toInt32) &&& (7 : Int32)) % (5 : Int32))), .val (.int c_427), .val (.int c_428), .unset, .unset, .unset, .unset, .unset, .unset, .unset] [])) _
      refine XS.iloadN X428.here hx rfl (hb hby at_35) rfl ?_
      show Steps p.tables e below (T428.setTop (mkF m 36 #[.val (.int p0), .val (.int p1), .val (.int p2), .val (.int p3), .val (.int p4), .val (.int (1 : Int32)), .val (.int ((((p0.toUInt32 >>> ((1 : Int32) &&& 31).toUInt32).toInt32) &&& (7 : Int32)) % (5 : Int32))), .val (.int c_427), .val (.int c_428), .unset, .unset, .unset, .unset, .unset, .unset, .unset] [(.int p3)])) _
      refine st429 _ ?_
      show Steps p.tables e below (T429.setTop (mkF m 39 #[.val (.int p0), .val (.int p1), .val (.int p2), .val (.int p3), .val (.int p4), .val (.int (1 : Int32)), .val (.int ((((p0.toUInt32 >>> ((1 : Int32) &&& 31).toUInt32).toInt32) &&& (7 : Int32)) % (5 : Int32))), .val (.int c_427), .val (.int c_428), .unset, .unset, .unset, .unset, .unset, .unset, .unset] [(.int c_429)])) _
      refine XS.istore X429.here hx rfl (hb hby at_39) rfl (l' := #[.val (.int p0), .val (.int p1), .val (.int p2), .val (.int p3), .val (.int p4), .val (.int (1 : Int32)), .val (.int ((((p0.toUInt32 >>> ((1 : Int32) &&& 31).toUInt32).toInt32) &&& (7 : Int32)) % (5 : Int32))), .val (.int c_427), .val (.int c_428), .val (.int c_429), .unset, .unset, .unset, .unset, .unset, .unset]) rfl ?_
      show Steps p.tables e below (T429.setTop (mkF m 41 #[.val (.int p0), .val (.int p1), .val (.int p2), .val (.int p3), .val (.int p4), .val (.int (1 : Int32)), .val (.int ((((p0.toUInt32 >>> ((1 : Int32) &&& 31).toUInt32).toInt32) &&& (7 : Int32)) % (5 : Int32))), .val (.int c_427), .val (.int c_428), .val (.int c_429), .unset, .unset, .unset, .unset, .unset, .unset] [])) _
      refine XS.iload X429.here hx rfl (hb hby at_41) rfl ?_
      show Steps p.tables e below (T429.setTop (mkF m 43 #[.val (.int p0), .val (.int p1), .val (.int p2), .val (.int p3), .val (.int p4), .val (.int (1 : Int32)), .val (.int ((((p0.toUInt32 >>> ((1 : Int32) &&& 31).toUInt32).toInt32) &&& (7 : Int32)) % (5 : Int32))), .val (.int c_427), .val (.int c_428), .val (.int c_429), .unset, .unset, .unset, .unset, .unset, .unset] [(.int p4)])) _
      refine st430 _ ?_
      show Steps p.tables e below (T430.setTop (mkF m 46 #[.val (.int p0), .val (.int p1), .val (.int p2), .val (.int p3), .val (.int p4), .val (.int (1 : Int32)), .val (.int ((((p0.toUInt32 >>> ((1 : Int32) &&& 31).toUInt32).toInt32) &&& (7 : Int32)) % (5 : Int32))), .val (.int c_427), .val (.int c_428), .val (.int c_429), .unset, .unset, .unset, .unset, .unset, .unset] [(.int c_430)])) _
      refine XS.istore X430.here hx rfl (hb hby at_46) rfl (l' := #[.val (.int p0), .val (.int p1), .val (.int p2), .val (.int p3), .val (.int p4), .val (.int (1 : Int32)), .val (.int ((((p0.toUInt32 >>> ((1 : Int32) &&& 31).toUInt32).toInt32) &&& (7 : Int32)) % (5 : Int32))), .val (.int c_427), .val (.int c_428), .val (.int c_429), .val (.int c_430), .unset, .unset, .unset, .unset, .unset]) rfl ?_
      exact k
    rcases own_mod5 ((p0.toUInt32 >>> ((1 : Int32) &&& 31).toUInt32).toInt32) with hv432 | hv432 | hv432 | hv432 | hv432
    · have pre433 : ∀ t, Steps p.tables e below (T430.setTop (mkF m 48 #[.val (.int p0), .val (.int p1), .val (.int p2), .val (.int p3), .val (.int p4), .val (.int (1 : Int32)), .val (.int (0 : Int32)), .val (.int c_427), .val (.int c_428), .val (.int c_429), .val (.int c_430), .unset, .unset, .unset, .unset, .unset] [])) t → Steps p.tables e below (s₁.setTop (entryFrame m #[(.int p0), (.int p1), (.int p2), (.int p3), (.int p4)] maxLocals)) t := fun t k => pre431 t (by rw [hv432]; exact k)
      obtain ⟨a434, T434, h434, k434, bv434, kb434, X434, e434, E434, hS434, z434k, hZ434, hw434, PE434, PC434, PV434, PA434, z434a, z434b, hI434, Lt434, st434⟩ := ldcSVL (s := s) (vm0 := s.vm) X430 hx hZ hown (hw _ (List.mem_of_getElem? (i := 4) rfl)) (fun d hd => hw d (own_sa d hd)) e430 hS0 (by omega) (by rw [hh]; exact N430) (fun b cl q => by rw [hh]; exact X00.2 b cl q) hI (by decide) hh13 hcw (vs := []) (z := (0 : Int32)) ⟨by decide, rfl⟩ (by decide) rfl (g := (mkF m 53 #[.val (.int p0), .val (.int p1), .val (.int p2), .val (.int p3), .val (.int p4), .val (.int (1 : Int32)), .val (.int (0 : Int32)), .val (.int c_427), .val (.int c_428), .val (.int c_429), .val (.int c_430), .unset, .unset, .unset, .unset, .unset] [])) rfl (hb hby at_53) (n := 0) (by decide) (by decide) (by decide) (by decide)
      have z435 := E434.1
      have KC436 : Keep h0 h434 [] := KC0.ext E434
      have z437 : @LT.lt Nat _ a434 (Array.size h434) := PE434.lt
      have z438 : @LT.lt Nat _ bv434 (Array.size h434) := PA434.lt
      have Fc439 := (H0.ext E434)
      obtain ⟨T440, X440, e440, st440⟩ := getS2 X434 hx hZ434 hw434 (host := "") (Or.inl (hw _ (List.mem_of_getElem? (i := 59) rfl))) Via.refl e434 Fc439 (g := (mkF m 190 #[.val (.int p0), .val (.int p1), .val (.int p2), .val (.int p3), .val (.int p4), .val (.int (1 : Int32)), .val (.int (0 : Int32)), .val (.int c_427), .val (.int c_428), .val (.int c_429), .val (.int c_430), .val (.ref a434), .unset, .unset, .unset, .unset] [])) rfl (hb hby at_190)
      have Xo441 : Ext Z.heap h434 := own_extT X00 (own_ext KC436)
      have Fc442 := (H4.ext E434)
      have z444 := congrArg Array.size e440
      have Fc445 := (H2.ext E434)
      obtain ⟨cq443, kq443, qa443, qb443, qc443⟩ := isOf hZ434 e440 Fc445
      obtain ⟨_, _, ⟨T443, L443, k443, n443⟩, -, Y443, hY443, gY443, ⟨Lc443, hQ443, l443, y443, z443⟩, st443⟩ := X440.virtualBackS hx (y := (⟨"com/example/task_relay/taskrelay/Scope", "allows", "(Ljava/lang/String;)Z"⟩ : MethodName)) (z := (⟨"com/example/task_relay/taskrelay/Scope", "allows", "(Ljava/lang/String;)Z"⟩ : MethodName)) hw434 (mvT hZ434 (hw _ (List.mem_of_getElem? (i := 15) rfl))) (mvT hZ434 (hw _ (List.mem_of_getElem? (i := 16) rfl))) (notFace_of_selects (args := #[]) (mvT hZ434 (hw _ (List.mem_of_getElem? (i := 18) rfl)))) (mvT hZ434 (hw _ (List.mem_of_getElem? (i := 18) rfl))) (mvT hZ434 (hw _ (List.mem_of_getElem? (i := 17) rfl))) (by decide) (backOfI (W := 0) (rmaf0 l Z a0 hw [] a434 wF G1 h434 h0.size (by omega) Fc439 Fc442 (hG1 : ¬ (G1 = (0 : Int32))) (hh58 : Jvm.Lit.constHeld Z "com/example/task_relay/taskrelay/Scope" 58) (hh60 : Jvm.Lit.constHeld Z "com/example/task_relay/taskrelay/Scope" 60) (Xo441 : Ext Z.heap h434) (hcw : Jvm.Lit.compactW.before a0 Z = true)) hZ434 (hw _ (List.mem_of_getElem? (i := 19) rfl)) (hw _ (List.mem_of_getElem? (i := 13) rfl)) (by decide) (by decide)) qa443 qc443 (g := (mkF m 302 #[.val (.int p0), .val (.int p1), .val (.int p2), .val (.int p3), .val (.int p4), .val (.int (1 : Int32)), .val (.int (0 : Int32)), .val (.int c_427), .val (.int c_428), .val (.int c_429), .val (.int c_430), .val (.ref a434), .val (.ref wF), .val (.int (0 : Int32)), .val (.int (0 : Int32)), .val (.int (1 : Int32))] [(.ref a434), (.ref wF)])) rfl (by rw [hml]; rfl) (Steps.refl _) (argsL := [(.ref a434)]) (rest := []) (lenOf pd_2 rfl) rfl (by show 2 * 0 + _ ≤ _; exact Nat.le_of_eq rfl) (hb hby at_302) (fun _ Hw => ⟨rfl, e440, (by decide : 2 + 0 ≤ _), (by decide : 4 + 0 ≤ _), own_IBw hI434 Hw⟩)
      dsimp only [Pt.U, Pt.locs, Pt.cells, Pt.slots] at Y443 hY443 gY443 l443 y443 z443 st443 hQ443
      subst l443 y443 z443
      obtain ⟨X443, hS443, hZ443, hw443⟩ := rebS (s := s) (vm0 := T434.vm) hS434 (by omega : k434 ≤ T440.heap.size) Y443 hY443 gY443 hZ434 hw434
      obtain ⟨rfl, N443q, K443⟩ := hQ443
      have N443 := Fr.app N430 N443q
      have z446 := K443.1
      have KC447 : Keep h0 T443.heap [] := KC436.trans K443 all0
      obtain ⟨fs, hr, hrun, hended, rE1, rE2, rE3, rE4⟩ := leaveW (s := s) (vm₁ := T443.vm) X443 hS443 (by omega : T443.heap.size ≤ T443.heap.size) (v := some (.int (1 : Int32))) (fun h => by rw [Bd.returns] at h; cases h)
      refine ⟨_, _, pre433 _ ?_, hrun, hended, _, _, rfl, ?_, rE1, rE2, rE3, rE4.mono (by decide) (by decide)⟩
      · show Steps p.tables e below (T430.setTop (mkF m 48 #[.val (.int p0), .val (.int p1), .val (.int p2), .val (.int p3), .val (.int p4), .val (.int (1 : Int32)), .val (.int (0 : Int32)), .val (.int c_427), .val (.int c_428), .val (.int c_429), .val (.int c_430), .unset, .unset, .unset, .unset, .unset] [])) _
        refine XS.iload X430.here hx rfl (hb hby at_48) rfl ?_
        show Steps p.tables e below (T430.setTop (mkF m 50 #[.val (.int p0), .val (.int p1), .val (.int p2), .val (.int p3), .val (.int p4), .val (.int (1 : Int32)), .val (.int (0 : Int32)), .val (.int c_427), .val (.int c_428), .val (.int c_429), .val (.int c_430), .unset, .unset, .unset, .unset, .unset] [(.int (0 : Int32))])) _
        refine XS.ifNo X430.here hx rfl (hb hby at_50) rfl ((if0 _ _).trans (teq (by decide : (0 : Int32) = (0 : Int32))).2) ?_
        show Steps p.tables e below (T430.setTop (mkF m 53 #[.val (.int p0), .val (.int p1), .val (.int p2), .val (.int p3), .val (.int p4), .val (.int (1 : Int32)), .val (.int (0 : Int32)), .val (.int c_427), .val (.int c_428), .val (.int c_429), .val (.int c_430), .unset, .unset, .unset, .unset, .unset] [])) _
        refine st434 _ ?_
        show Steps p.tables e below (T434.setTop (mkF m 55 #[.val (.int p0), .val (.int p1), .val (.int p2), .val (.int p3), .val (.int p4), .val (.int (1 : Int32)), .val (.int (0 : Int32)), .val (.int c_427), .val (.int c_428), .val (.int c_429), .val (.int c_430), .unset, .unset, .unset, .unset, .unset] [(.ref a434)])) _
        refine XS.astore X434.here hx rfl (hb hby at_55) rfl rfl (l' := #[.val (.int p0), .val (.int p1), .val (.int p2), .val (.int p3), .val (.int p4), .val (.int (1 : Int32)), .val (.int (0 : Int32)), .val (.int c_427), .val (.int c_428), .val (.int c_429), .val (.int c_430), .val (.ref a434), .unset, .unset, .unset, .unset]) rfl ?_
        show Steps p.tables e below (T434.setTop (mkF m 57 #[.val (.int p0), .val (.int p1), .val (.int p2), .val (.int p3), .val (.int p4), .val (.int (1 : Int32)), .val (.int (0 : Int32)), .val (.int c_427), .val (.int c_428), .val (.int c_429), .val (.int c_430), .val (.ref a434), .unset, .unset, .unset, .unset] [])) _
        refine XS.goto X434.here hx rfl (pc0 := 57) (pc' := 185) rfl (hb hby at_57) (by decide) (by decide) ?_
        show Steps p.tables e below (T434.setTop (mkF m 185 #[.val (.int p0), .val (.int p1), .val (.int p2), .val (.int p3), .val (.int p4), .val (.int (1 : Int32)), .val (.int (0 : Int32)), .val (.int c_427), .val (.int c_428), .val (.int c_429), .val (.int c_430), .val (.ref a434), .unset, .unset, .unset, .unset] [])) _
        refine XS.iload X434.here hx rfl (hb hby at_185) rfl ?_
        show Steps p.tables e below (T434.setTop (mkF m 187 #[.val (.int p0), .val (.int p1), .val (.int p2), .val (.int p3), .val (.int p4), .val (.int (1 : Int32)), .val (.int (0 : Int32)), .val (.int c_427), .val (.int c_428), .val (.int c_429), .val (.int c_430), .val (.ref a434), .unset, .unset, .unset, .unset] [(.int (1 : Int32))])) _
        refine XS.ifNo X434.here hx rfl (hb hby at_187) rfl ((if0 _ _).trans (feq (by decide : ¬ ((1 : Int32) = (0 : Int32)))).1) ?_
        show Steps p.tables e below (T434.setTop (mkF m 190 #[.val (.int p0), .val (.int p1), .val (.int p2), .val (.int p3), .val (.int p4), .val (.int (1 : Int32)), .val (.int (0 : Int32)), .val (.int c_427), .val (.int c_428), .val (.int c_429), .val (.int c_430), .val (.ref a434), .unset, .unset, .unset, .unset] [])) _
        refine st440 _ ?_
        show Steps p.tables e below (T440.setTop (mkF m 193 #[.val (.int p0), .val (.int p1), .val (.int p2), .val (.int p3), .val (.int p4), .val (.int (1 : Int32)), .val (.int (0 : Int32)), .val (.int c_427), .val (.int c_428), .val (.int c_429), .val (.int c_430), .val (.ref a434), .unset, .unset, .unset, .unset] [(.ref wF)])) _
        refine XS.goto X440.here hx rfl (pc0 := 193) (pc' := 199) rfl (hb hby at_193) (by decide) (by decide) ?_
        show Steps p.tables e below (T440.setTop (mkF m 199 #[.val (.int p0), .val (.int p1), .val (.int p2), .val (.int p3), .val (.int p4), .val (.int (1 : Int32)), .val (.int (0 : Int32)), .val (.int c_427), .val (.int c_428), .val (.int c_429), .val (.int c_430), .val (.ref a434), .unset, .unset, .unset, .unset] [(.ref wF)])) _
        refine XS.astore X440.here hx rfl (hb hby at_199) rfl rfl (l' := #[.val (.int p0), .val (.int p1), .val (.int p2), .val (.int p3), .val (.int p4), .val (.int (1 : Int32)), .val (.int (0 : Int32)), .val (.int c_427), .val (.int c_428), .val (.int c_429), .val (.int c_430), .val (.ref a434), .val (.ref wF), .unset, .unset, .unset]) rfl ?_
        show Steps p.tables e below (T440.setTop (mkF m 201 #[.val (.int p0), .val (.int p1), .val (.int p2), .val (.int p3), .val (.int p4), .val (.int (1 : Int32)), .val (.int (0 : Int32)), .val (.int c_427), .val (.int c_428), .val (.int c_429), .val (.int c_430), .val (.ref a434), .val (.ref wF), .unset, .unset, .unset] [])) _
        refine XS.iload X440.here hx rfl (hb hby at_201) rfl ?_
        show Steps p.tables e below (T440.setTop (mkF m 203 #[.val (.int p0), .val (.int p1), .val (.int p2), .val (.int p3), .val (.int p4), .val (.int (1 : Int32)), .val (.int (0 : Int32)), .val (.int c_427), .val (.int c_428), .val (.int c_429), .val (.int c_430), .val (.ref a434), .val (.ref wF), .unset, .unset, .unset] [(.int (0 : Int32))])) _
        refine XS.iconst X440.here hx rfl (hb hby at_203) ?_
        show Steps p.tables e below (T440.setTop (mkF m 204 #[.val (.int p0), .val (.int p1), .val (.int p2), .val (.int p3), .val (.int p4), .val (.int (1 : Int32)), .val (.int (0 : Int32)), .val (.int c_427), .val (.int c_428), .val (.int c_429), .val (.int c_430), .val (.ref a434), .val (.ref wF), .unset, .unset, .unset] [(.int (3 : Int32)), (.int (0 : Int32))])) _
        refine XS.icmpYes X440.here hx rfl (pc0 := 204) (pc' := 232) rfl (hb hby at_204) rfl (feq (by decide : ¬ ((0 : Int32) = (3 : Int32)))).2 (by decide) (by decide) ?_
        show Steps p.tables e below (T440.setTop (mkF m 232 #[.val (.int p0), .val (.int p1), .val (.int p2), .val (.int p3), .val (.int p4), .val (.int (1 : Int32)), .val (.int (0 : Int32)), .val (.int c_427), .val (.int c_428), .val (.int c_429), .val (.int c_430), .val (.ref a434), .val (.ref wF), .unset, .unset, .unset] [])) _
        refine XS.iconst X440.here hx rfl (hb hby at_232) ?_
        show Steps p.tables e below (T440.setTop (mkF m 233 #[.val (.int p0), .val (.int p1), .val (.int p2), .val (.int p3), .val (.int p4), .val (.int (1 : Int32)), .val (.int (0 : Int32)), .val (.int c_427), .val (.int c_428), .val (.int c_429), .val (.int c_430), .val (.ref a434), .val (.ref wF), .unset, .unset, .unset] [(.int (0 : Int32))])) _
        refine XS.istore X440.here hx rfl (hb hby at_233) rfl (l' := #[.val (.int p0), .val (.int p1), .val (.int p2), .val (.int p3), .val (.int p4), .val (.int (1 : Int32)), .val (.int (0 : Int32)), .val (.int c_427), .val (.int c_428), .val (.int c_429), .val (.int c_430), .val (.ref a434), .val (.ref wF), .val (.int (0 : Int32)), .unset, .unset]) rfl ?_
        show Steps p.tables e below (T440.setTop (mkF m 235 #[.val (.int p0), .val (.int p1), .val (.int p2), .val (.int p3), .val (.int p4), .val (.int (1 : Int32)), .val (.int (0 : Int32)), .val (.int c_427), .val (.int c_428), .val (.int c_429), .val (.int c_430), .val (.ref a434), .val (.ref wF), .val (.int (0 : Int32)), .unset, .unset] [])) _
        refine XS.iload X440.here hx rfl (hb hby at_235) rfl ?_
        show Steps p.tables e below (T440.setTop (mkF m 237 #[.val (.int p0), .val (.int p1), .val (.int p2), .val (.int p3), .val (.int p4), .val (.int (1 : Int32)), .val (.int (0 : Int32)), .val (.int c_427), .val (.int c_428), .val (.int c_429), .val (.int c_430), .val (.ref a434), .val (.ref wF), .val (.int (0 : Int32)), .unset, .unset] [(.int (0 : Int32))])) _
        refine XS.iconst X440.here hx rfl (hb hby at_237) ?_
        show Steps p.tables e below (T440.setTop (mkF m 238 #[.val (.int p0), .val (.int p1), .val (.int p2), .val (.int p3), .val (.int p4), .val (.int (1 : Int32)), .val (.int (0 : Int32)), .val (.int c_427), .val (.int c_428), .val (.int c_429), .val (.int c_430), .val (.ref a434), .val (.ref wF), .val (.int (0 : Int32)), .unset, .unset] [(.int (4 : Int32)), (.int (0 : Int32))])) _
        refine XS.icmpYes X440.here hx rfl (pc0 := 238) (pc' := 273) rfl (hb hby at_238) rfl (feq (by decide : ¬ ((0 : Int32) = (4 : Int32)))).2 (by decide) (by decide) ?_
        show Steps p.tables e below (T440.setTop (mkF m 273 #[.val (.int p0), .val (.int p1), .val (.int p2), .val (.int p3), .val (.int p4), .val (.int (1 : Int32)), .val (.int (0 : Int32)), .val (.int c_427), .val (.int c_428), .val (.int c_429), .val (.int c_430), .val (.ref a434), .val (.ref wF), .val (.int (0 : Int32)), .unset, .unset] [])) _
        refine XS.iconst X440.here hx rfl (hb hby at_273) ?_
        show Steps p.tables e below (T440.setTop (mkF m 274 #[.val (.int p0), .val (.int p1), .val (.int p2), .val (.int p3), .val (.int p4), .val (.int (1 : Int32)), .val (.int (0 : Int32)), .val (.int c_427), .val (.int c_428), .val (.int c_429), .val (.int c_430), .val (.ref a434), .val (.ref wF), .val (.int (0 : Int32)), .unset, .unset] [(.int (0 : Int32))])) _
        refine XS.istore X440.here hx rfl (hb hby at_274) rfl (l' := #[.val (.int p0), .val (.int p1), .val (.int p2), .val (.int p3), .val (.int p4), .val (.int (1 : Int32)), .val (.int (0 : Int32)), .val (.int c_427), .val (.int c_428), .val (.int c_429), .val (.int c_430), .val (.ref a434), .val (.ref wF), .val (.int (0 : Int32)), .val (.int (0 : Int32)), .unset]) rfl ?_
        show Steps p.tables e below (T440.setTop (mkF m 276 #[.val (.int p0), .val (.int p1), .val (.int p2), .val (.int p3), .val (.int p4), .val (.int (1 : Int32)), .val (.int (0 : Int32)), .val (.int c_427), .val (.int c_428), .val (.int c_429), .val (.int c_430), .val (.ref a434), .val (.ref wF), .val (.int (0 : Int32)), .val (.int (0 : Int32)), .unset] [])) _
        refine XS.iload X440.here hx rfl (hb hby at_276) rfl ?_
        show Steps p.tables e below (T440.setTop (mkF m 278 #[.val (.int p0), .val (.int p1), .val (.int p2), .val (.int p3), .val (.int p4), .val (.int (1 : Int32)), .val (.int (0 : Int32)), .val (.int c_427), .val (.int c_428), .val (.int c_429), .val (.int c_430), .val (.ref a434), .val (.ref wF), .val (.int (0 : Int32)), .val (.int (0 : Int32)), .unset] [(.int (1 : Int32))])) _
        refine XS.ifYes X440.here hx rfl (pc0 := 278) (pc' := 291) rfl (hb hby at_278) rfl ((if0 _ _).trans (feq (by decide : ¬ ((1 : Int32) = (0 : Int32)))).2) (by decide) (by decide) ?_
        show Steps p.tables e below (T440.setTop (mkF m 291 #[.val (.int p0), .val (.int p1), .val (.int p2), .val (.int p3), .val (.int p4), .val (.int (1 : Int32)), .val (.int (0 : Int32)), .val (.int c_427), .val (.int c_428), .val (.int c_429), .val (.int c_430), .val (.ref a434), .val (.ref wF), .val (.int (0 : Int32)), .val (.int (0 : Int32)), .unset] [])) _
        refine XS.iconst X440.here hx rfl (hb hby at_291) ?_
        show Steps p.tables e below (T440.setTop (mkF m 292 #[.val (.int p0), .val (.int p1), .val (.int p2), .val (.int p3), .val (.int p4), .val (.int (1 : Int32)), .val (.int (0 : Int32)), .val (.int c_427), .val (.int c_428), .val (.int c_429), .val (.int c_430), .val (.ref a434), .val (.ref wF), .val (.int (0 : Int32)), .val (.int (0 : Int32)), .unset] [(.int (1 : Int32))])) _
        refine XS.goto X440.here hx rfl (pc0 := 292) (pc' := 296) rfl (hb hby at_292) (by decide) (by decide) ?_
        show Steps p.tables e below (T440.setTop (mkF m 296 #[.val (.int p0), .val (.int p1), .val (.int p2), .val (.int p3), .val (.int p4), .val (.int (1 : Int32)), .val (.int (0 : Int32)), .val (.int c_427), .val (.int c_428), .val (.int c_429), .val (.int c_430), .val (.ref a434), .val (.ref wF), .val (.int (0 : Int32)), .val (.int (0 : Int32)), .unset] [(.int (1 : Int32))])) _
        refine XS.istore X440.here hx rfl (hb hby at_296) rfl (l' := #[.val (.int p0), .val (.int p1), .val (.int p2), .val (.int p3), .val (.int p4), .val (.int (1 : Int32)), .val (.int (0 : Int32)), .val (.int c_427), .val (.int c_428), .val (.int c_429), .val (.int c_430), .val (.ref a434), .val (.ref wF), .val (.int (0 : Int32)), .val (.int (0 : Int32)), .val (.int (1 : Int32))]) rfl ?_
        show Steps p.tables e below (T440.setTop (mkF m 298 #[.val (.int p0), .val (.int p1), .val (.int p2), .val (.int p3), .val (.int p4), .val (.int (1 : Int32)), .val (.int (0 : Int32)), .val (.int c_427), .val (.int c_428), .val (.int c_429), .val (.int c_430), .val (.ref a434), .val (.ref wF), .val (.int (0 : Int32)), .val (.int (0 : Int32)), .val (.int (1 : Int32))] [])) _
        refine XS.aload X440.here hx rfl (hb hby at_298) rfl rfl ?_
        show Steps p.tables e below (T440.setTop (mkF m 300 #[.val (.int p0), .val (.int p1), .val (.int p2), .val (.int p3), .val (.int p4), .val (.int (1 : Int32)), .val (.int (0 : Int32)), .val (.int c_427), .val (.int c_428), .val (.int c_429), .val (.int c_430), .val (.ref a434), .val (.ref wF), .val (.int (0 : Int32)), .val (.int (0 : Int32)), .val (.int (1 : Int32))] [(.ref wF)])) _
        refine XS.aload X440.here hx rfl (hb hby at_300) rfl rfl ?_
        show Steps p.tables e below (T440.setTop (mkF m 302 #[.val (.int p0), .val (.int p1), .val (.int p2), .val (.int p3), .val (.int p4), .val (.int (1 : Int32)), .val (.int (0 : Int32)), .val (.int c_427), .val (.int c_428), .val (.int c_429), .val (.int c_430), .val (.ref a434), .val (.ref wF), .val (.int (0 : Int32)), .val (.int (0 : Int32)), .val (.int (1 : Int32))] [(.ref a434), (.ref wF)])) _
        refine st443.trans ?_
        show Steps p.tables e below (T443.setTop (mkF m 305 #[.val (.int p0), .val (.int p1), .val (.int p2), .val (.int p3), .val (.int p4), .val (.int (1 : Int32)), .val (.int (0 : Int32)), .val (.int c_427), .val (.int c_428), .val (.int c_429), .val (.int c_430), .val (.ref a434), .val (.ref wF), .val (.int (0 : Int32)), .val (.int (0 : Int32)), .val (.int (1 : Int32))] [(.int (1 : Int32))])) _
        refine XS.iload X443.here hx rfl (hb hby at_305) rfl ?_
        show Steps p.tables e below (T443.setTop (mkF m 307 #[.val (.int p0), .val (.int p1), .val (.int p2), .val (.int p3), .val (.int p4), .val (.int (1 : Int32)), .val (.int (0 : Int32)), .val (.int c_427), .val (.int c_428), .val (.int c_429), .val (.int c_430), .val (.ref a434), .val (.ref wF), .val (.int (0 : Int32)), .val (.int (0 : Int32)), .val (.int (1 : Int32))] [(.int (1 : Int32)), (.int (1 : Int32))])) _
        refine XS.icmpNo X443.here hx rfl (hb hby at_307) rfl (teq (by decide : (1 : Int32) = (1 : Int32))).2 ?_
        show Steps p.tables e below (T443.setTop (mkF m 310 #[.val (.int p0), .val (.int p1), .val (.int p2), .val (.int p3), .val (.int p4), .val (.int (1 : Int32)), .val (.int (0 : Int32)), .val (.int c_427), .val (.int c_428), .val (.int c_429), .val (.int c_430), .val (.ref a434), .val (.ref wF), .val (.int (0 : Int32)), .val (.int (0 : Int32)), .val (.int (1 : Int32))] [])) _
        refine XS.iconst X443.here hx rfl (hb hby at_310) ?_
        show Steps p.tables e below (T443.setTop (mkF m 311 #[.val (.int p0), .val (.int p1), .val (.int p2), .val (.int p3), .val (.int p4), .val (.int (1 : Int32)), .val (.int (0 : Int32)), .val (.int c_427), .val (.int c_428), .val (.int c_429), .val (.int c_430), .val (.ref a434), .val (.ref wF), .val (.int (0 : Int32)), .val (.int (0 : Int32)), .val (.int (1 : Int32))] [(.int (1 : Int32))])) _
        refine XS.goto X443.here hx rfl (pc0 := 311) (pc' := 315) rfl (hb hby at_311) (by decide) (by decide) ?_
        show Steps p.tables e below (T443.setTop (mkF m 315 #[.val (.int p0), .val (.int p1), .val (.int p2), .val (.int p3), .val (.int p4), .val (.int (1 : Int32)), .val (.int (0 : Int32)), .val (.int c_427), .val (.int c_428), .val (.int c_429), .val (.int c_430), .val (.ref a434), .val (.ref wF), .val (.int (0 : Int32)), .val (.int (0 : Int32)), .val (.int (1 : Int32))] [(.int (1 : Int32))])) _
        exact retN X443 hx (t := .boolean) Bd.returns (by simp) (hb hby at_315) hr
      · show Qrm0 Z p0 p1 p2 p3 p4 wF wR G1 h0 n0 _ T443.heap _
        exact ⟨rfl, (fun y hy => Nat.le_trans Z0 (N443 y hy)), KC447⟩
    · have pre448 : ∀ t, Steps p.tables e below (T430.setTop (mkF m 48 #[.val (.int p0), .val (.int p1), .val (.int p2), .val (.int p3), .val (.int p4), .val (.int (1 : Int32)), .val (.int (1 : Int32)), .val (.int c_427), .val (.int c_428), .val (.int c_429), .val (.int c_430), .unset, .unset, .unset, .unset, .unset] [])) t → Steps p.tables e below (s₁.setTop (entryFrame m #[(.int p0), (.int p1), (.int p2), (.int p3), (.int p4)] maxLocals)) t := fun t k => pre431 t (by rw [hv432]; exact k)
      obtain ⟨T449, h449, X449, e449, E449, A449, D449, -, st449⟩ := newO X430 hx hZ hown (hw _ (List.mem_of_getElem? (i := 38) rfl)) (hw _ (List.mem_of_getElem? (i := 6) rfl)) (hw _ (List.mem_of_getElem? (i := 5) rfl)) e430 (g := (mkF m 66 #[.val (.int p0), .val (.int p1), .val (.int p2), .val (.int p3), .val (.int p4), .val (.int (1 : Int32)), .val (.int (1 : Int32)), .val (.int c_427), .val (.int c_428), .val (.int c_429), .val (.int c_430), .unset, .unset, .unset, .unset, .unset] [])) rfl (hb hby at_66) (by decide) (by decide)
      obtain ⟨b449, g449⟩ : ∃ z, z = h0.size := ⟨_, rfl⟩
      rw [← g449] at A449 D449 st449
      have z450 := E449.1
      have KC451 : Keep h0 h449 [] := KC0.ext E449
      have z452 : @LT.lt Nat _ b449 (Array.size h449) := A449.lt
      have F449_value : Fld Z h449 b449 "java/lang/String" "value" "[B" .null := D449 (Or.inr (hw _ (List.mem_of_getElem? (i := 8) rfl))) (ty := (.array .byte)) (by decide)
      have F449_coder : Fld Z h449 b449 "java/lang/String" "coder" "B" (.int (0 : Int32)) := D449 (Or.inr (hw _ (List.mem_of_getElem? (i := 9) rfl))) (ty := .byte) (by decide)
      obtain ⟨T453, h453, k453, X453, e453, E453, A453, st453⟩ := newP X449 hx hZ (hw _ (List.mem_of_getElem? (i := 39) rfl)) e449 (g := (mkF m 71 #[.val (.int p0), .val (.int p1), .val (.int p2), .val (.int p3), .val (.int p4), .val (.int (1 : Int32)), .val (.int (1 : Int32)), .val (.int c_427), .val (.int c_428), .val (.int c_429), .val (.int c_430), .unset, .unset, .unset, .unset, .unset] [(.int (1 : Int32)), (.ref b449), (.ref b449)])) rfl (hb hby at_71) rfl (by decide) (cap := 1) (by decide) (by decide) (by decide) (by decide)
      obtain ⟨b453, g453⟩ : ∃ z, z = h449.size := ⟨_, rfl⟩
      rw [← g453] at A453 st453
      have z454 := E453.1
      have KC455 : Keep h0 h453 [] := KC451.ext E453
      have V453 : Arv Z h453 b453 k453 .char (1 : Int32) [(.int (0 : Int32))] (.int (0 : Int32)) := (Arv.new A453 (by decide)).pad (pad_rep [] (.int (0 : Int32)) 1)
      have z456 : @LT.lt Nat _ b453 (Array.size h453) := V453.lt
      obtain ⟨cl457, Ar457, q457, S457, N457', H457, G457⟩ := id V453
      have hin457 : ¬ ((0 : Int32) < 0 ∨ cl457.slots.size ≤ ((0 : Int32)).toNatClampNeg) := inb_of S457 ⟨by decide, by decide⟩
      obtain ⟨T458, h458, X458, e458, W458, st458⟩ := stC X453 hx hZ e453 Ar457 (j := (0 : Int32)) hin457 (g := (mkF m 77 #[.val (.int p0), .val (.int p1), .val (.int p2), .val (.int p3), .val (.int p4), .val (.int (1 : Int32)), .val (.int (1 : Int32)), .val (.int c_427), .val (.int c_428), .val (.int c_429), .val (.int c_430), .unset, .unset, .unset, .unset, .unset] [(.int c_427), (.int (0 : Int32)), (.ref b453), (.ref b453), (.ref b449), (.ref b449)])) rfl rfl (hb hby at_77)
      have z459 := W458.size
      have N458 := Fr.snoc X458 N430 (by omega : h0.size ≤ b453)
      have KC460 : Keep h0 h458 [] := KC455.wr W458 (Or.inr (by omega))
      have V458 : Arv Z h458 b453 k453 .char (1 : Int32) [(.int (nar .char c_427))] (.int (0 : Int32)) := Arv.set Ar457 q457 S457 N457' H457 G457 (fits_nar_char _) W458 0 rfl (Nat.le_of_ble_eq_true rfl)
      rw [P427_1] at V458
      have Fc462 := ((A449.ext E453).wr W458)
      have Fc463 := ((F449_value.ext E453).other W458 (Or.inl (by omega : @Ne Nat b449 b453)))
      have Fc464 := ((F449_coder.ext E453).other W458 (Or.inl (by omega : @Ne Nat b449 b453)))
      have Fc465 := (((H4.ext E449).ext E453).wr W458)
      have hp461 : ∀ c ∈ ([c_427] : List Int32), ¬ c < 0 ∧ ¬ (255 : Int32) < c := by
        intro c hc
        simp only [List.mem_cons, List.not_mem_nil, or_false] at hc
        subst hc
        exact P427_0
      obtain ⟨_, _, ⟨T461, L461, k461, n461⟩, -, X461, ⟨Lc461, hQ461, l461, y461, z461⟩, st461⟩ := X458.specialBack hx (y := (⟨"java/lang/String", "<init>", "([C)V"⟩ : MethodName)) rfl hown (mvT hZ (hw _ (List.mem_of_getElem? (i := 40) rfl))) (mvT hZ (hw _ (List.mem_of_getElem? (i := 41) rfl))) (mvT hZ (hw _ (List.mem_of_getElem? (i := 42) rfl))) (by decide) (StrChars.Road.backV (W := 1) hZ (fun d hd => hw d (own_words d hd)) (kI := 4) (hw _ (List.mem_of_getElem? (i := 6) rfl)) (cs := ([c_427] : List Int32)) (bs := (([c_427] : List Int32)).map (fun c => c.toInt8.toInt32)) (n := 1) (by omega : h0.size ≤ b449) (by omega : h0.size ≤ h458.size) Fc462 Fc463 Fc464 V458 Fc465 hG1 rfl rfl (by decide) (by decide) hp461 rfl (by decide) (by decide)) (g := (mkF m 78 #[.val (.int p0), .val (.int p1), .val (.int p2), .val (.int p3), .val (.int p4), .val (.int (1 : Int32)), .val (.int (1 : Int32)), .val (.int c_427), .val (.int c_428), .val (.int c_429), .val (.int c_430), .unset, .unset, .unset, .unset, .unset] [(.ref b453), (.ref b449), (.ref b449)])) rfl (by rw [hml]; rfl) (Steps.refl _) (a := b449) (argsL := [(.ref b453)]) (rest := [(.ref b449)]) (lenOf pd_3 rfl) rfl (by show 2 * 0 + _ ≤ _; exact Nat.le_of_eq rfl) (hb hby at_78) (fun _ _ => ⟨rfl, e458, (by decide : 2 + 1 ≤ _), (by decide : 5 + 1 ≤ _)⟩)
      dsimp only [Pt.U, Pt.locs, Pt.cells, Pt.slots] at X461 l461 y461 z461 st461 hQ461
      subst l461 y461 z461
      obtain ⟨rfl, N461q, K461, P461E, P461C, bv461, kb461, u461a, u461b, u461c, P461V, P461A⟩ := hQ461
      have N461 := Fr.app N458 N461q
      have z466 := K461.1
      have KC467 : Keep h0 T461.heap [] := KC460.trans K461 (allS (Or.inr (by omega)) all0)
      have P461B : Arv Z T461.heap bv461 kb461 .byte (1 : Int32) [(.int (c_427).toInt8.toInt32)] (.int (0 : Int32)) := P461A
      have z468 : @LT.lt Nat _ b449 (Array.size T461.heap) := P461E.lt
      have z469 : @LT.lt Nat _ bv461 (Array.size T461.heap) := P461A.lt
      have Fc470 := (own_staK (((H0.ext E449).ext E453).wr W458) K461 (allS ⟨_, Fc462⟩ all0))
      obtain ⟨T471, X471, e471, st471⟩ := getS2 X461 hx hZ hown (host := "") (Or.inl (hw _ (List.mem_of_getElem? (i := 59) rfl))) Via.refl rfl Fc470 (g := (mkF m 190 #[.val (.int p0), .val (.int p1), .val (.int p2), .val (.int p3), .val (.int p4), .val (.int (1 : Int32)), .val (.int (1 : Int32)), .val (.int c_427), .val (.int c_428), .val (.int c_429), .val (.int c_430), .val (.ref b449), .unset, .unset, .unset, .unset] [])) rfl (hb hby at_190)
      have Xo472 : Ext Z.heap T461.heap := own_extT X00 (own_ext KC467)
      have Fc473 := (own_staK Fc465 K461 (allS ⟨_, Fc462⟩ all0))
      have z475 := congrArg Array.size e471
      have Fc476 := ((((H2.ext E449).ext E453).wr W458).keep K461)
      obtain ⟨cq474, kq474, qa474, qb474, qc474⟩ := isOf hZ e471 Fc476
      obtain ⟨_, _, ⟨T474, L474, k474, n474⟩, -, Y474, hY474, gY474, ⟨Lc474, hQ474, l474, y474, z474⟩, st474⟩ := X471.virtualBackS hx (y := (⟨"com/example/task_relay/taskrelay/Scope", "allows", "(Ljava/lang/String;)Z"⟩ : MethodName)) (z := (⟨"com/example/task_relay/taskrelay/Scope", "allows", "(Ljava/lang/String;)Z"⟩ : MethodName)) hown (mvT hZ (hw _ (List.mem_of_getElem? (i := 15) rfl))) (mvT hZ (hw _ (List.mem_of_getElem? (i := 16) rfl))) (notFace_of_selects (args := #[]) (mvT hZ (hw _ (List.mem_of_getElem? (i := 18) rfl)))) (mvT hZ (hw _ (List.mem_of_getElem? (i := 18) rfl))) (mvT hZ (hw _ (List.mem_of_getElem? (i := 17) rfl))) (by decide) (backOfI (W := 0) (rmaf1 l Z a0 hw [] b449 wF G1 T461.heap h0.size (by omega) Fc470 Fc473 (hG1 : ¬ (G1 = (0 : Int32))) (hh58 : Jvm.Lit.constHeld Z "com/example/task_relay/taskrelay/Scope" 58) (hh60 : Jvm.Lit.constHeld Z "com/example/task_relay/taskrelay/Scope" 60) (Xo472 : Ext Z.heap T461.heap) (hcw : Jvm.Lit.compactW.before a0 Z = true)) hZ (hw _ (List.mem_of_getElem? (i := 19) rfl)) (hw _ (List.mem_of_getElem? (i := 13) rfl)) (by decide) (by decide)) qa474 qc474 (g := (mkF m 302 #[.val (.int p0), .val (.int p1), .val (.int p2), .val (.int p3), .val (.int p4), .val (.int (1 : Int32)), .val (.int (1 : Int32)), .val (.int c_427), .val (.int c_428), .val (.int c_429), .val (.int c_430), .val (.ref b449), .val (.ref wF), .val (.int (0 : Int32)), .val (.int (0 : Int32)), .val (.int (1 : Int32))] [(.ref b449), (.ref wF)])) rfl (by rw [hml]; rfl) (Steps.refl _) (argsL := [(.ref b449)]) (rest := []) (lenOf pd_2 rfl) rfl (by show 2 * 0 + _ ≤ _; exact Nat.le_of_eq rfl) (hb hby at_302) (fun _ Hw => ⟨rfl, e471, (by decide : 3 + 0 ≤ _), (by decide : 6 + 0 ≤ _), own_IBw hI Hw⟩)
      dsimp only [Pt.U, Pt.locs, Pt.cells, Pt.slots] at Y474 hY474 gY474 l474 y474 z474 st474 hQ474
      subst l474 y474 z474
      obtain ⟨X474, hS474, hZ474, hw474⟩ := rebS (s := s) (vm0 := s.vm) hS0 (by omega : h0.size ≤ T471.heap.size) Y474 hY474 gY474 hZ hown
      obtain ⟨rfl, N474q, K474⟩ := hQ474
      have N474 := Fr.app N461 N474q
      have z477 := K474.1
      have KC478 : Keep h0 T474.heap [] := KC467.trans K474 all0
      obtain ⟨fs, hr, hrun, hended, rE1, rE2, rE3, rE4⟩ := leaveW (s := s) (vm₁ := T474.vm) X474 hS474 (by omega : T474.heap.size ≤ T474.heap.size) (v := some (.int (1 : Int32))) (fun h => by rw [Bd.returns] at h; cases h)
      refine ⟨_, _, pre448 _ ?_, hrun, hended, _, _, rfl, ?_, rE1, rE2, rE3, rE4.mono (by decide) (by decide)⟩
      · show Steps p.tables e below (T430.setTop (mkF m 48 #[.val (.int p0), .val (.int p1), .val (.int p2), .val (.int p3), .val (.int p4), .val (.int (1 : Int32)), .val (.int (1 : Int32)), .val (.int c_427), .val (.int c_428), .val (.int c_429), .val (.int c_430), .unset, .unset, .unset, .unset, .unset] [])) _
        refine XS.iload X430.here hx rfl (hb hby at_48) rfl ?_
        show Steps p.tables e below (T430.setTop (mkF m 50 #[.val (.int p0), .val (.int p1), .val (.int p2), .val (.int p3), .val (.int p4), .val (.int (1 : Int32)), .val (.int (1 : Int32)), .val (.int c_427), .val (.int c_428), .val (.int c_429), .val (.int c_430), .unset, .unset, .unset, .unset, .unset] [(.int (1 : Int32))])) _
        refine XS.ifYes X430.here hx rfl (pc0 := 50) (pc' := 60) rfl (hb hby at_50) rfl ((if0 _ _).trans (feq (by decide : ¬ ((1 : Int32) = (0 : Int32)))).2) (by decide) (by decide) ?_
        show Steps p.tables e below (T430.setTop (mkF m 60 #[.val (.int p0), .val (.int p1), .val (.int p2), .val (.int p3), .val (.int p4), .val (.int (1 : Int32)), .val (.int (1 : Int32)), .val (.int c_427), .val (.int c_428), .val (.int c_429), .val (.int c_430), .unset, .unset, .unset, .unset, .unset] [])) _
        refine XS.iload X430.here hx rfl (hb hby at_60) rfl ?_
        show Steps p.tables e below (T430.setTop (mkF m 62 #[.val (.int p0), .val (.int p1), .val (.int p2), .val (.int p3), .val (.int p4), .val (.int (1 : Int32)), .val (.int (1 : Int32)), .val (.int c_427), .val (.int c_428), .val (.int c_429), .val (.int c_430), .unset, .unset, .unset, .unset, .unset] [(.int (1 : Int32))])) _
        refine XS.iconst X430.here hx rfl (hb hby at_62) ?_
        show Steps p.tables e below (T430.setTop (mkF m 63 #[.val (.int p0), .val (.int p1), .val (.int p2), .val (.int p3), .val (.int p4), .val (.int (1 : Int32)), .val (.int (1 : Int32)), .val (.int c_427), .val (.int c_428), .val (.int c_429), .val (.int c_430), .unset, .unset, .unset, .unset, .unset] [(.int (1 : Int32)), (.int (1 : Int32))])) _
        refine XS.icmpNo X430.here hx rfl (hb hby at_63) rfl (teq (by decide : (1 : Int32) = (1 : Int32))).2 ?_
        show Steps p.tables e below (T430.setTop (mkF m 66 #[.val (.int p0), .val (.int p1), .val (.int p2), .val (.int p3), .val (.int p4), .val (.int (1 : Int32)), .val (.int (1 : Int32)), .val (.int c_427), .val (.int c_428), .val (.int c_429), .val (.int c_430), .unset, .unset, .unset, .unset, .unset] [])) _
        refine st449 _ ?_
        show Steps p.tables e below (T449.setTop (mkF m 69 #[.val (.int p0), .val (.int p1), .val (.int p2), .val (.int p3), .val (.int p4), .val (.int (1 : Int32)), .val (.int (1 : Int32)), .val (.int c_427), .val (.int c_428), .val (.int c_429), .val (.int c_430), .unset, .unset, .unset, .unset, .unset] [(.ref b449)])) _
        refine XS.dup X449.here hx rfl (hb hby at_69) rfl rfl ?_
        show Steps p.tables e below (T449.setTop (mkF m 70 #[.val (.int p0), .val (.int p1), .val (.int p2), .val (.int p3), .val (.int p4), .val (.int (1 : Int32)), .val (.int (1 : Int32)), .val (.int c_427), .val (.int c_428), .val (.int c_429), .val (.int c_430), .unset, .unset, .unset, .unset, .unset] [(.ref b449), (.ref b449)])) _
        refine XS.iconst X449.here hx rfl (hb hby at_70) ?_
        show Steps p.tables e below (T449.setTop (mkF m 71 #[.val (.int p0), .val (.int p1), .val (.int p2), .val (.int p3), .val (.int p4), .val (.int (1 : Int32)), .val (.int (1 : Int32)), .val (.int c_427), .val (.int c_428), .val (.int c_429), .val (.int c_430), .unset, .unset, .unset, .unset, .unset] [(.int (1 : Int32)), (.ref b449), (.ref b449)])) _
        refine st453 _ ?_
        show Steps p.tables e below (T453.setTop (mkF m 73 #[.val (.int p0), .val (.int p1), .val (.int p2), .val (.int p3), .val (.int p4), .val (.int (1 : Int32)), .val (.int (1 : Int32)), .val (.int c_427), .val (.int c_428), .val (.int c_429), .val (.int c_430), .unset, .unset, .unset, .unset, .unset] [(.ref b453), (.ref b449), (.ref b449)])) _
        refine XS.dup X453.here hx rfl (hb hby at_73) rfl rfl ?_
        show Steps p.tables e below (T453.setTop (mkF m 74 #[.val (.int p0), .val (.int p1), .val (.int p2), .val (.int p3), .val (.int p4), .val (.int (1 : Int32)), .val (.int (1 : Int32)), .val (.int c_427), .val (.int c_428), .val (.int c_429), .val (.int c_430), .unset, .unset, .unset, .unset, .unset] [(.ref b453), (.ref b453), (.ref b449), (.ref b449)])) _
        refine XS.iconst X453.here hx rfl (hb hby at_74) ?_
        show Steps p.tables e below (T453.setTop (mkF m 75 #[.val (.int p0), .val (.int p1), .val (.int p2), .val (.int p3), .val (.int p4), .val (.int (1 : Int32)), .val (.int (1 : Int32)), .val (.int c_427), .val (.int c_428), .val (.int c_429), .val (.int c_430), .unset, .unset, .unset, .unset, .unset] [(.int (0 : Int32)), (.ref b453), (.ref b453), (.ref b449), (.ref b449)])) _
        refine XS.iload X453.here hx rfl (hb hby at_75) rfl ?_
        show Steps p.tables e below (T453.setTop (mkF m 77 #[.val (.int p0), .val (.int p1), .val (.int p2), .val (.int p3), .val (.int p4), .val (.int (1 : Int32)), .val (.int (1 : Int32)), .val (.int c_427), .val (.int c_428), .val (.int c_429), .val (.int c_430), .unset, .unset, .unset, .unset, .unset] [(.int c_427), (.int (0 : Int32)), (.ref b453), (.ref b453), (.ref b449), (.ref b449)])) _
        refine st458 _ ?_
        show Steps p.tables e below (T458.setTop (mkF m 78 #[.val (.int p0), .val (.int p1), .val (.int p2), .val (.int p3), .val (.int p4), .val (.int (1 : Int32)), .val (.int (1 : Int32)), .val (.int c_427), .val (.int c_428), .val (.int c_429), .val (.int c_430), .unset, .unset, .unset, .unset, .unset] [(.ref b453), (.ref b449), (.ref b449)])) _
        refine st461.trans ?_
        show Steps p.tables e below (T461.setTop (mkF m 81 #[.val (.int p0), .val (.int p1), .val (.int p2), .val (.int p3), .val (.int p4), .val (.int (1 : Int32)), .val (.int (1 : Int32)), .val (.int c_427), .val (.int c_428), .val (.int c_429), .val (.int c_430), .unset, .unset, .unset, .unset, .unset] [(.ref b449)])) _
        refine XS.astore X461.here hx rfl (hb hby at_81) rfl rfl (l' := #[.val (.int p0), .val (.int p1), .val (.int p2), .val (.int p3), .val (.int p4), .val (.int (1 : Int32)), .val (.int (1 : Int32)), .val (.int c_427), .val (.int c_428), .val (.int c_429), .val (.int c_430), .val (.ref b449), .unset, .unset, .unset, .unset]) rfl ?_
        show Steps p.tables e below (T461.setTop (mkF m 83 #[.val (.int p0), .val (.int p1), .val (.int p2), .val (.int p3), .val (.int p4), .val (.int (1 : Int32)), .val (.int (1 : Int32)), .val (.int c_427), .val (.int c_428), .val (.int c_429), .val (.int c_430), .val (.ref b449), .unset, .unset, .unset, .unset] [])) _
        refine XS.goto X461.here hx rfl (pc0 := 83) (pc' := 185) rfl (hb hby at_83) (by decide) (by decide) ?_
        show Steps p.tables e below (T461.setTop (mkF m 185 #[.val (.int p0), .val (.int p1), .val (.int p2), .val (.int p3), .val (.int p4), .val (.int (1 : Int32)), .val (.int (1 : Int32)), .val (.int c_427), .val (.int c_428), .val (.int c_429), .val (.int c_430), .val (.ref b449), .unset, .unset, .unset, .unset] [])) _
        refine XS.iload X461.here hx rfl (hb hby at_185) rfl ?_
        show Steps p.tables e below (T461.setTop (mkF m 187 #[.val (.int p0), .val (.int p1), .val (.int p2), .val (.int p3), .val (.int p4), .val (.int (1 : Int32)), .val (.int (1 : Int32)), .val (.int c_427), .val (.int c_428), .val (.int c_429), .val (.int c_430), .val (.ref b449), .unset, .unset, .unset, .unset] [(.int (1 : Int32))])) _
        refine XS.ifNo X461.here hx rfl (hb hby at_187) rfl ((if0 _ _).trans (feq (by decide : ¬ ((1 : Int32) = (0 : Int32)))).1) ?_
        show Steps p.tables e below (T461.setTop (mkF m 190 #[.val (.int p0), .val (.int p1), .val (.int p2), .val (.int p3), .val (.int p4), .val (.int (1 : Int32)), .val (.int (1 : Int32)), .val (.int c_427), .val (.int c_428), .val (.int c_429), .val (.int c_430), .val (.ref b449), .unset, .unset, .unset, .unset] [])) _
        refine st471 _ ?_
        show Steps p.tables e below (T471.setTop (mkF m 193 #[.val (.int p0), .val (.int p1), .val (.int p2), .val (.int p3), .val (.int p4), .val (.int (1 : Int32)), .val (.int (1 : Int32)), .val (.int c_427), .val (.int c_428), .val (.int c_429), .val (.int c_430), .val (.ref b449), .unset, .unset, .unset, .unset] [(.ref wF)])) _
        refine XS.goto X471.here hx rfl (pc0 := 193) (pc' := 199) rfl (hb hby at_193) (by decide) (by decide) ?_
        show Steps p.tables e below (T471.setTop (mkF m 199 #[.val (.int p0), .val (.int p1), .val (.int p2), .val (.int p3), .val (.int p4), .val (.int (1 : Int32)), .val (.int (1 : Int32)), .val (.int c_427), .val (.int c_428), .val (.int c_429), .val (.int c_430), .val (.ref b449), .unset, .unset, .unset, .unset] [(.ref wF)])) _
        refine XS.astore X471.here hx rfl (hb hby at_199) rfl rfl (l' := #[.val (.int p0), .val (.int p1), .val (.int p2), .val (.int p3), .val (.int p4), .val (.int (1 : Int32)), .val (.int (1 : Int32)), .val (.int c_427), .val (.int c_428), .val (.int c_429), .val (.int c_430), .val (.ref b449), .val (.ref wF), .unset, .unset, .unset]) rfl ?_
        show Steps p.tables e below (T471.setTop (mkF m 201 #[.val (.int p0), .val (.int p1), .val (.int p2), .val (.int p3), .val (.int p4), .val (.int (1 : Int32)), .val (.int (1 : Int32)), .val (.int c_427), .val (.int c_428), .val (.int c_429), .val (.int c_430), .val (.ref b449), .val (.ref wF), .unset, .unset, .unset] [])) _
        refine XS.iload X471.here hx rfl (hb hby at_201) rfl ?_
        show Steps p.tables e below (T471.setTop (mkF m 203 #[.val (.int p0), .val (.int p1), .val (.int p2), .val (.int p3), .val (.int p4), .val (.int (1 : Int32)), .val (.int (1 : Int32)), .val (.int c_427), .val (.int c_428), .val (.int c_429), .val (.int c_430), .val (.ref b449), .val (.ref wF), .unset, .unset, .unset] [(.int (1 : Int32))])) _
        refine XS.iconst X471.here hx rfl (hb hby at_203) ?_
        show Steps p.tables e below (T471.setTop (mkF m 204 #[.val (.int p0), .val (.int p1), .val (.int p2), .val (.int p3), .val (.int p4), .val (.int (1 : Int32)), .val (.int (1 : Int32)), .val (.int c_427), .val (.int c_428), .val (.int c_429), .val (.int c_430), .val (.ref b449), .val (.ref wF), .unset, .unset, .unset] [(.int (3 : Int32)), (.int (1 : Int32))])) _
        refine XS.icmpYes X471.here hx rfl (pc0 := 204) (pc' := 232) rfl (hb hby at_204) rfl (feq (by decide : ¬ ((1 : Int32) = (3 : Int32)))).2 (by decide) (by decide) ?_
        show Steps p.tables e below (T471.setTop (mkF m 232 #[.val (.int p0), .val (.int p1), .val (.int p2), .val (.int p3), .val (.int p4), .val (.int (1 : Int32)), .val (.int (1 : Int32)), .val (.int c_427), .val (.int c_428), .val (.int c_429), .val (.int c_430), .val (.ref b449), .val (.ref wF), .unset, .unset, .unset] [])) _
        refine XS.iconst X471.here hx rfl (hb hby at_232) ?_
        show Steps p.tables e below (T471.setTop (mkF m 233 #[.val (.int p0), .val (.int p1), .val (.int p2), .val (.int p3), .val (.int p4), .val (.int (1 : Int32)), .val (.int (1 : Int32)), .val (.int c_427), .val (.int c_428), .val (.int c_429), .val (.int c_430), .val (.ref b449), .val (.ref wF), .unset, .unset, .unset] [(.int (0 : Int32))])) _
        refine XS.istore X471.here hx rfl (hb hby at_233) rfl (l' := #[.val (.int p0), .val (.int p1), .val (.int p2), .val (.int p3), .val (.int p4), .val (.int (1 : Int32)), .val (.int (1 : Int32)), .val (.int c_427), .val (.int c_428), .val (.int c_429), .val (.int c_430), .val (.ref b449), .val (.ref wF), .val (.int (0 : Int32)), .unset, .unset]) rfl ?_
        show Steps p.tables e below (T471.setTop (mkF m 235 #[.val (.int p0), .val (.int p1), .val (.int p2), .val (.int p3), .val (.int p4), .val (.int (1 : Int32)), .val (.int (1 : Int32)), .val (.int c_427), .val (.int c_428), .val (.int c_429), .val (.int c_430), .val (.ref b449), .val (.ref wF), .val (.int (0 : Int32)), .unset, .unset] [])) _
        refine XS.iload X471.here hx rfl (hb hby at_235) rfl ?_
        show Steps p.tables e below (T471.setTop (mkF m 237 #[.val (.int p0), .val (.int p1), .val (.int p2), .val (.int p3), .val (.int p4), .val (.int (1 : Int32)), .val (.int (1 : Int32)), .val (.int c_427), .val (.int c_428), .val (.int c_429), .val (.int c_430), .val (.ref b449), .val (.ref wF), .val (.int (0 : Int32)), .unset, .unset] [(.int (1 : Int32))])) _
        refine XS.iconst X471.here hx rfl (hb hby at_237) ?_
        show Steps p.tables e below (T471.setTop (mkF m 238 #[.val (.int p0), .val (.int p1), .val (.int p2), .val (.int p3), .val (.int p4), .val (.int (1 : Int32)), .val (.int (1 : Int32)), .val (.int c_427), .val (.int c_428), .val (.int c_429), .val (.int c_430), .val (.ref b449), .val (.ref wF), .val (.int (0 : Int32)), .unset, .unset] [(.int (4 : Int32)), (.int (1 : Int32))])) _
        refine XS.icmpYes X471.here hx rfl (pc0 := 238) (pc' := 273) rfl (hb hby at_238) rfl (feq (by decide : ¬ ((1 : Int32) = (4 : Int32)))).2 (by decide) (by decide) ?_
        show Steps p.tables e below (T471.setTop (mkF m 273 #[.val (.int p0), .val (.int p1), .val (.int p2), .val (.int p3), .val (.int p4), .val (.int (1 : Int32)), .val (.int (1 : Int32)), .val (.int c_427), .val (.int c_428), .val (.int c_429), .val (.int c_430), .val (.ref b449), .val (.ref wF), .val (.int (0 : Int32)), .unset, .unset] [])) _
        refine XS.iconst X471.here hx rfl (hb hby at_273) ?_
        show Steps p.tables e below (T471.setTop (mkF m 274 #[.val (.int p0), .val (.int p1), .val (.int p2), .val (.int p3), .val (.int p4), .val (.int (1 : Int32)), .val (.int (1 : Int32)), .val (.int c_427), .val (.int c_428), .val (.int c_429), .val (.int c_430), .val (.ref b449), .val (.ref wF), .val (.int (0 : Int32)), .unset, .unset] [(.int (0 : Int32))])) _
        refine XS.istore X471.here hx rfl (hb hby at_274) rfl (l' := #[.val (.int p0), .val (.int p1), .val (.int p2), .val (.int p3), .val (.int p4), .val (.int (1 : Int32)), .val (.int (1 : Int32)), .val (.int c_427), .val (.int c_428), .val (.int c_429), .val (.int c_430), .val (.ref b449), .val (.ref wF), .val (.int (0 : Int32)), .val (.int (0 : Int32)), .unset]) rfl ?_
        show Steps p.tables e below (T471.setTop (mkF m 276 #[.val (.int p0), .val (.int p1), .val (.int p2), .val (.int p3), .val (.int p4), .val (.int (1 : Int32)), .val (.int (1 : Int32)), .val (.int c_427), .val (.int c_428), .val (.int c_429), .val (.int c_430), .val (.ref b449), .val (.ref wF), .val (.int (0 : Int32)), .val (.int (0 : Int32)), .unset] [])) _
        refine XS.iload X471.here hx rfl (hb hby at_276) rfl ?_
        show Steps p.tables e below (T471.setTop (mkF m 278 #[.val (.int p0), .val (.int p1), .val (.int p2), .val (.int p3), .val (.int p4), .val (.int (1 : Int32)), .val (.int (1 : Int32)), .val (.int c_427), .val (.int c_428), .val (.int c_429), .val (.int c_430), .val (.ref b449), .val (.ref wF), .val (.int (0 : Int32)), .val (.int (0 : Int32)), .unset] [(.int (1 : Int32))])) _
        refine XS.ifYes X471.here hx rfl (pc0 := 278) (pc' := 291) rfl (hb hby at_278) rfl ((if0 _ _).trans (feq (by decide : ¬ ((1 : Int32) = (0 : Int32)))).2) (by decide) (by decide) ?_
        show Steps p.tables e below (T471.setTop (mkF m 291 #[.val (.int p0), .val (.int p1), .val (.int p2), .val (.int p3), .val (.int p4), .val (.int (1 : Int32)), .val (.int (1 : Int32)), .val (.int c_427), .val (.int c_428), .val (.int c_429), .val (.int c_430), .val (.ref b449), .val (.ref wF), .val (.int (0 : Int32)), .val (.int (0 : Int32)), .unset] [])) _
        refine XS.iconst X471.here hx rfl (hb hby at_291) ?_
        show Steps p.tables e below (T471.setTop (mkF m 292 #[.val (.int p0), .val (.int p1), .val (.int p2), .val (.int p3), .val (.int p4), .val (.int (1 : Int32)), .val (.int (1 : Int32)), .val (.int c_427), .val (.int c_428), .val (.int c_429), .val (.int c_430), .val (.ref b449), .val (.ref wF), .val (.int (0 : Int32)), .val (.int (0 : Int32)), .unset] [(.int (1 : Int32))])) _
        refine XS.goto X471.here hx rfl (pc0 := 292) (pc' := 296) rfl (hb hby at_292) (by decide) (by decide) ?_
        show Steps p.tables e below (T471.setTop (mkF m 296 #[.val (.int p0), .val (.int p1), .val (.int p2), .val (.int p3), .val (.int p4), .val (.int (1 : Int32)), .val (.int (1 : Int32)), .val (.int c_427), .val (.int c_428), .val (.int c_429), .val (.int c_430), .val (.ref b449), .val (.ref wF), .val (.int (0 : Int32)), .val (.int (0 : Int32)), .unset] [(.int (1 : Int32))])) _
        refine XS.istore X471.here hx rfl (hb hby at_296) rfl (l' := #[.val (.int p0), .val (.int p1), .val (.int p2), .val (.int p3), .val (.int p4), .val (.int (1 : Int32)), .val (.int (1 : Int32)), .val (.int c_427), .val (.int c_428), .val (.int c_429), .val (.int c_430), .val (.ref b449), .val (.ref wF), .val (.int (0 : Int32)), .val (.int (0 : Int32)), .val (.int (1 : Int32))]) rfl ?_
        show Steps p.tables e below (T471.setTop (mkF m 298 #[.val (.int p0), .val (.int p1), .val (.int p2), .val (.int p3), .val (.int p4), .val (.int (1 : Int32)), .val (.int (1 : Int32)), .val (.int c_427), .val (.int c_428), .val (.int c_429), .val (.int c_430), .val (.ref b449), .val (.ref wF), .val (.int (0 : Int32)), .val (.int (0 : Int32)), .val (.int (1 : Int32))] [])) _
        refine XS.aload X471.here hx rfl (hb hby at_298) rfl rfl ?_
        show Steps p.tables e below (T471.setTop (mkF m 300 #[.val (.int p0), .val (.int p1), .val (.int p2), .val (.int p3), .val (.int p4), .val (.int (1 : Int32)), .val (.int (1 : Int32)), .val (.int c_427), .val (.int c_428), .val (.int c_429), .val (.int c_430), .val (.ref b449), .val (.ref wF), .val (.int (0 : Int32)), .val (.int (0 : Int32)), .val (.int (1 : Int32))] [(.ref wF)])) _
        refine XS.aload X471.here hx rfl (hb hby at_300) rfl rfl ?_
        show Steps p.tables e below (T471.setTop (mkF m 302 #[.val (.int p0), .val (.int p1), .val (.int p2), .val (.int p3), .val (.int p4), .val (.int (1 : Int32)), .val (.int (1 : Int32)), .val (.int c_427), .val (.int c_428), .val (.int c_429), .val (.int c_430), .val (.ref b449), .val (.ref wF), .val (.int (0 : Int32)), .val (.int (0 : Int32)), .val (.int (1 : Int32))] [(.ref b449), (.ref wF)])) _
        refine st474.trans ?_
        show Steps p.tables e below (T474.setTop (mkF m 305 #[.val (.int p0), .val (.int p1), .val (.int p2), .val (.int p3), .val (.int p4), .val (.int (1 : Int32)), .val (.int (1 : Int32)), .val (.int c_427), .val (.int c_428), .val (.int c_429), .val (.int c_430), .val (.ref b449), .val (.ref wF), .val (.int (0 : Int32)), .val (.int (0 : Int32)), .val (.int (1 : Int32))] [(.int (1 : Int32))])) _
        refine XS.iload X474.here hx rfl (hb hby at_305) rfl ?_
        show Steps p.tables e below (T474.setTop (mkF m 307 #[.val (.int p0), .val (.int p1), .val (.int p2), .val (.int p3), .val (.int p4), .val (.int (1 : Int32)), .val (.int (1 : Int32)), .val (.int c_427), .val (.int c_428), .val (.int c_429), .val (.int c_430), .val (.ref b449), .val (.ref wF), .val (.int (0 : Int32)), .val (.int (0 : Int32)), .val (.int (1 : Int32))] [(.int (1 : Int32)), (.int (1 : Int32))])) _
        refine XS.icmpNo X474.here hx rfl (hb hby at_307) rfl (teq (by decide : (1 : Int32) = (1 : Int32))).2 ?_
        show Steps p.tables e below (T474.setTop (mkF m 310 #[.val (.int p0), .val (.int p1), .val (.int p2), .val (.int p3), .val (.int p4), .val (.int (1 : Int32)), .val (.int (1 : Int32)), .val (.int c_427), .val (.int c_428), .val (.int c_429), .val (.int c_430), .val (.ref b449), .val (.ref wF), .val (.int (0 : Int32)), .val (.int (0 : Int32)), .val (.int (1 : Int32))] [])) _
        refine XS.iconst X474.here hx rfl (hb hby at_310) ?_
        show Steps p.tables e below (T474.setTop (mkF m 311 #[.val (.int p0), .val (.int p1), .val (.int p2), .val (.int p3), .val (.int p4), .val (.int (1 : Int32)), .val (.int (1 : Int32)), .val (.int c_427), .val (.int c_428), .val (.int c_429), .val (.int c_430), .val (.ref b449), .val (.ref wF), .val (.int (0 : Int32)), .val (.int (0 : Int32)), .val (.int (1 : Int32))] [(.int (1 : Int32))])) _
        refine XS.goto X474.here hx rfl (pc0 := 311) (pc' := 315) rfl (hb hby at_311) (by decide) (by decide) ?_
        show Steps p.tables e below (T474.setTop (mkF m 315 #[.val (.int p0), .val (.int p1), .val (.int p2), .val (.int p3), .val (.int p4), .val (.int (1 : Int32)), .val (.int (1 : Int32)), .val (.int c_427), .val (.int c_428), .val (.int c_429), .val (.int c_430), .val (.ref b449), .val (.ref wF), .val (.int (0 : Int32)), .val (.int (0 : Int32)), .val (.int (1 : Int32))] [(.int (1 : Int32))])) _
        exact retN X474 hx (t := .boolean) Bd.returns (by simp) (hb hby at_315) hr
      · show Qrm0 Z p0 p1 p2 p3 p4 wF wR G1 h0 n0 _ T474.heap _
        exact ⟨rfl, (fun y hy => Nat.le_trans Z0 (N474 y hy)), KC478⟩
    · have pre479 : ∀ t, Steps p.tables e below (T430.setTop (mkF m 48 #[.val (.int p0), .val (.int p1), .val (.int p2), .val (.int p3), .val (.int p4), .val (.int (1 : Int32)), .val (.int (2 : Int32)), .val (.int c_427), .val (.int c_428), .val (.int c_429), .val (.int c_430), .unset, .unset, .unset, .unset, .unset] [])) t → Steps p.tables e below (s₁.setTop (entryFrame m #[(.int p0), (.int p1), (.int p2), (.int p3), (.int p4)] maxLocals)) t := fun t k => pre431 t (by rw [hv432]; exact k)
      obtain ⟨T480, h480, X480, e480, E480, A480, D480, -, st480⟩ := newO X430 hx hZ hown (hw _ (List.mem_of_getElem? (i := 38) rfl)) (hw _ (List.mem_of_getElem? (i := 6) rfl)) (hw _ (List.mem_of_getElem? (i := 5) rfl)) e430 (g := (mkF m 92 #[.val (.int p0), .val (.int p1), .val (.int p2), .val (.int p3), .val (.int p4), .val (.int (1 : Int32)), .val (.int (2 : Int32)), .val (.int c_427), .val (.int c_428), .val (.int c_429), .val (.int c_430), .unset, .unset, .unset, .unset, .unset] [])) rfl (hb hby at_92) (by decide) (by decide)
      obtain ⟨b480, g480⟩ : ∃ z, z = h0.size := ⟨_, rfl⟩
      rw [← g480] at A480 D480 st480
      have z481 := E480.1
      have KC482 : Keep h0 h480 [] := KC0.ext E480
      have z483 : @LT.lt Nat _ b480 (Array.size h480) := A480.lt
      have F480_value : Fld Z h480 b480 "java/lang/String" "value" "[B" .null := D480 (Or.inr (hw _ (List.mem_of_getElem? (i := 8) rfl))) (ty := (.array .byte)) (by decide)
      have F480_coder : Fld Z h480 b480 "java/lang/String" "coder" "B" (.int (0 : Int32)) := D480 (Or.inr (hw _ (List.mem_of_getElem? (i := 9) rfl))) (ty := .byte) (by decide)
      obtain ⟨T484, h484, k484, X484, e484, E484, A484, st484⟩ := newP X480 hx hZ (hw _ (List.mem_of_getElem? (i := 39) rfl)) e480 (g := (mkF m 97 #[.val (.int p0), .val (.int p1), .val (.int p2), .val (.int p3), .val (.int p4), .val (.int (1 : Int32)), .val (.int (2 : Int32)), .val (.int c_427), .val (.int c_428), .val (.int c_429), .val (.int c_430), .unset, .unset, .unset, .unset, .unset] [(.int (2 : Int32)), (.ref b480), (.ref b480)])) rfl (hb hby at_97) rfl (by decide) (cap := 2) (by decide) (by decide) (by decide) (by decide)
      obtain ⟨b484, g484⟩ : ∃ z, z = h480.size := ⟨_, rfl⟩
      rw [← g484] at A484 st484
      have z485 := E484.1
      have KC486 : Keep h0 h484 [] := KC482.ext E484
      have V484 : Arv Z h484 b484 k484 .char (2 : Int32) [(.int (0 : Int32)), (.int (0 : Int32))] (.int (0 : Int32)) := (Arv.new A484 (by decide)).pad (pad_rep [] (.int (0 : Int32)) 2)
      have z487 : @LT.lt Nat _ b484 (Array.size h484) := V484.lt
      obtain ⟨cl488, Ar488, q488, S488, N488', H488, G488⟩ := id V484
      have hin488 : ¬ ((0 : Int32) < 0 ∨ cl488.slots.size ≤ ((0 : Int32)).toNatClampNeg) := inb_of S488 ⟨by decide, by decide⟩
      obtain ⟨T489, h489, X489, e489, W489, st489⟩ := stC X484 hx hZ e484 Ar488 (j := (0 : Int32)) hin488 (g := (mkF m 103 #[.val (.int p0), .val (.int p1), .val (.int p2), .val (.int p3), .val (.int p4), .val (.int (1 : Int32)), .val (.int (2 : Int32)), .val (.int c_427), .val (.int c_428), .val (.int c_429), .val (.int c_430), .unset, .unset, .unset, .unset, .unset] [(.int c_427), (.int (0 : Int32)), (.ref b484), (.ref b484), (.ref b480), (.ref b480)])) rfl rfl (hb hby at_103)
      have z490 := W489.size
      have N489 := Fr.snoc X489 N430 (by omega : h0.size ≤ b484)
      have KC491 : Keep h0 h489 [] := KC486.wr W489 (Or.inr (by omega))
      have V489 : Arv Z h489 b484 k484 .char (2 : Int32) [(.int (nar .char c_427)), (.int (0 : Int32))] (.int (0 : Int32)) := Arv.set Ar488 q488 S488 N488' H488 G488 (fits_nar_char _) W489 0 rfl (Nat.le_of_ble_eq_true rfl)
      rw [P427_1] at V489
      obtain ⟨cl492, Ar492, q492, S492, N492', H492, G492⟩ := id V489
      have hin492 : ¬ ((1 : Int32) < 0 ∨ cl492.slots.size ≤ ((1 : Int32)).toNatClampNeg) := inb_of S492 ⟨by decide, by decide⟩
      obtain ⟨T493, h493, X493, e493, W493, st493⟩ := stC X489 hx hZ e489 Ar492 (j := (1 : Int32)) hin492 (g := (mkF m 108 #[.val (.int p0), .val (.int p1), .val (.int p2), .val (.int p3), .val (.int p4), .val (.int (1 : Int32)), .val (.int (2 : Int32)), .val (.int c_427), .val (.int c_428), .val (.int c_429), .val (.int c_430), .unset, .unset, .unset, .unset, .unset] [(.int c_428), (.int (1 : Int32)), (.ref b484), (.ref b484), (.ref b480), (.ref b480)])) rfl rfl (hb hby at_108)
      have z494 := W493.size
      have N493 := Fr.snoc X493 N489 (by omega : h0.size ≤ b484)
      have KC495 : Keep h0 h493 [] := KC491.wr W493 (Or.inr (by omega))
      have V493 : Arv Z h493 b484 k484 .char (2 : Int32) [(.int c_427), (.int (nar .char c_428))] (.int (0 : Int32)) := Arv.set Ar492 q492 S492 N492' H492 G492 (fits_nar_char _) W493 1 rfl (Nat.le_of_ble_eq_true rfl)
      rw [P428_1] at V493
      have Fc497 := (((A480.ext E484).wr W489).wr W493)
      have Fc498 := (((F480_value.ext E484).other W489 (Or.inl (by omega : @Ne Nat b480 b484))).other W493 (Or.inl (by omega : @Ne Nat b480 b484)))
      have Fc499 := (((F480_coder.ext E484).other W489 (Or.inl (by omega : @Ne Nat b480 b484))).other W493 (Or.inl (by omega : @Ne Nat b480 b484)))
      have Fc500 := ((((H4.ext E480).ext E484).wr W489).wr W493)
      have hp496 : ∀ c ∈ ([c_427, c_428] : List Int32), ¬ c < 0 ∧ ¬ (255 : Int32) < c := by
        intro c hc
        simp only [List.mem_cons, List.not_mem_nil, or_false] at hc
        rcases hc with rfl | rfl
        · exact P427_0
        · exact P428_0
      obtain ⟨_, _, ⟨T496, L496, k496, n496⟩, -, X496, ⟨Lc496, hQ496, l496, y496, z496⟩, st496⟩ := X493.specialBack hx (y := (⟨"java/lang/String", "<init>", "([C)V"⟩ : MethodName)) rfl hown (mvT hZ (hw _ (List.mem_of_getElem? (i := 40) rfl))) (mvT hZ (hw _ (List.mem_of_getElem? (i := 41) rfl))) (mvT hZ (hw _ (List.mem_of_getElem? (i := 42) rfl))) (by decide) (StrChars.Road.backV (W := 1) hZ (fun d hd => hw d (own_words d hd)) (kI := 4) (hw _ (List.mem_of_getElem? (i := 6) rfl)) (cs := ([c_427, c_428] : List Int32)) (bs := (([c_427, c_428] : List Int32)).map (fun c => c.toInt8.toInt32)) (n := 2) (by omega : h0.size ≤ b480) (by omega : h0.size ≤ h493.size) Fc497 Fc498 Fc499 V493 Fc500 hG1 rfl rfl (by decide) (by decide) hp496 rfl (by decide) (by decide)) (g := (mkF m 109 #[.val (.int p0), .val (.int p1), .val (.int p2), .val (.int p3), .val (.int p4), .val (.int (1 : Int32)), .val (.int (2 : Int32)), .val (.int c_427), .val (.int c_428), .val (.int c_429), .val (.int c_430), .unset, .unset, .unset, .unset, .unset] [(.ref b484), (.ref b480), (.ref b480)])) rfl (by rw [hml]; rfl) (Steps.refl _) (a := b480) (argsL := [(.ref b484)]) (rest := [(.ref b480)]) (lenOf pd_3 rfl) rfl (by show 2 * 0 + _ ≤ _; exact Nat.le_of_eq rfl) (hb hby at_109) (fun _ _ => ⟨rfl, e493, (by decide : 2 + 1 ≤ _), (by decide : 6 + 2 ≤ _)⟩)
      dsimp only [Pt.U, Pt.locs, Pt.cells, Pt.slots] at X496 l496 y496 z496 st496 hQ496
      subst l496 y496 z496
      obtain ⟨rfl, N496q, K496, P496E, P496C, bv496, kb496, u496a, u496b, u496c, P496V, P496A⟩ := hQ496
      have N496 := Fr.app N493 N496q
      have z501 := K496.1
      have KC502 : Keep h0 T496.heap [] := KC495.trans K496 (allS (Or.inr (by omega)) all0)
      have P496B : Arv Z T496.heap bv496 kb496 .byte (2 : Int32) [(.int (c_427).toInt8.toInt32), (.int (c_428).toInt8.toInt32)] (.int (0 : Int32)) := P496A
      have z503 : @LT.lt Nat _ b480 (Array.size T496.heap) := P496E.lt
      have z504 : @LT.lt Nat _ bv496 (Array.size T496.heap) := P496A.lt
      have Fc505 := (own_staK ((((H0.ext E480).ext E484).wr W489).wr W493) K496 (allS ⟨_, Fc497⟩ all0))
      obtain ⟨T506, X506, e506, st506⟩ := getS2 X496 hx hZ hown (host := "") (Or.inl (hw _ (List.mem_of_getElem? (i := 59) rfl))) Via.refl rfl Fc505 (g := (mkF m 190 #[.val (.int p0), .val (.int p1), .val (.int p2), .val (.int p3), .val (.int p4), .val (.int (1 : Int32)), .val (.int (2 : Int32)), .val (.int c_427), .val (.int c_428), .val (.int c_429), .val (.int c_430), .val (.ref b480), .unset, .unset, .unset, .unset] [])) rfl (hb hby at_190)
      have Xo507 : Ext Z.heap T496.heap := own_extT X00 (own_ext KC502)
      have Fc508 := (own_staK Fc500 K496 (allS ⟨_, Fc497⟩ all0))
      have z510 := congrArg Array.size e506
      have Fc511 := (((((H2.ext E480).ext E484).wr W489).wr W493).keep K496)
      obtain ⟨cq509, kq509, qa509, qb509, qc509⟩ := isOf hZ e506 Fc511
      obtain ⟨_, _, ⟨T509, L509, k509, n509⟩, -, Y509, hY509, gY509, ⟨Lc509, hQ509, l509, y509, z509⟩, st509⟩ := X506.virtualBackS hx (y := (⟨"com/example/task_relay/taskrelay/Scope", "allows", "(Ljava/lang/String;)Z"⟩ : MethodName)) (z := (⟨"com/example/task_relay/taskrelay/Scope", "allows", "(Ljava/lang/String;)Z"⟩ : MethodName)) hown (mvT hZ (hw _ (List.mem_of_getElem? (i := 15) rfl))) (mvT hZ (hw _ (List.mem_of_getElem? (i := 16) rfl))) (notFace_of_selects (args := #[]) (mvT hZ (hw _ (List.mem_of_getElem? (i := 18) rfl)))) (mvT hZ (hw _ (List.mem_of_getElem? (i := 18) rfl))) (mvT hZ (hw _ (List.mem_of_getElem? (i := 17) rfl))) (by decide) (backOfI (W := 0) (rmaf1 l Z a0 hw [] b480 wF G1 T496.heap h0.size (by omega) Fc505 Fc508 (hG1 : ¬ (G1 = (0 : Int32))) (hh58 : Jvm.Lit.constHeld Z "com/example/task_relay/taskrelay/Scope" 58) (hh60 : Jvm.Lit.constHeld Z "com/example/task_relay/taskrelay/Scope" 60) (Xo507 : Ext Z.heap T496.heap) (hcw : Jvm.Lit.compactW.before a0 Z = true)) hZ (hw _ (List.mem_of_getElem? (i := 19) rfl)) (hw _ (List.mem_of_getElem? (i := 13) rfl)) (by decide) (by decide)) qa509 qc509 (g := (mkF m 302 #[.val (.int p0), .val (.int p1), .val (.int p2), .val (.int p3), .val (.int p4), .val (.int (1 : Int32)), .val (.int (2 : Int32)), .val (.int c_427), .val (.int c_428), .val (.int c_429), .val (.int c_430), .val (.ref b480), .val (.ref wF), .val (.int (0 : Int32)), .val (.int (0 : Int32)), .val (.int (1 : Int32))] [(.ref b480), (.ref wF)])) rfl (by rw [hml]; rfl) (Steps.refl _) (argsL := [(.ref b480)]) (rest := []) (lenOf pd_2 rfl) rfl (by show 2 * 0 + _ ≤ _; exact Nat.le_of_eq rfl) (hb hby at_302) (fun _ Hw => ⟨rfl, e506, (by decide : 3 + 0 ≤ _), (by decide : 8 + 0 ≤ _), own_IBw hI Hw⟩)
      dsimp only [Pt.U, Pt.locs, Pt.cells, Pt.slots] at Y509 hY509 gY509 l509 y509 z509 st509 hQ509
      subst l509 y509 z509
      obtain ⟨X509, hS509, hZ509, hw509⟩ := rebS (s := s) (vm0 := s.vm) hS0 (by omega : h0.size ≤ T506.heap.size) Y509 hY509 gY509 hZ hown
      obtain ⟨rfl, N509q, K509⟩ := hQ509
      have N509 := Fr.app N496 N509q
      have z512 := K509.1
      have KC513 : Keep h0 T509.heap [] := KC502.trans K509 all0
      obtain ⟨fs, hr, hrun, hended, rE1, rE2, rE3, rE4⟩ := leaveW (s := s) (vm₁ := T509.vm) X509 hS509 (by omega : T509.heap.size ≤ T509.heap.size) (v := some (.int (1 : Int32))) (fun h => by rw [Bd.returns] at h; cases h)
      refine ⟨_, _, pre479 _ ?_, hrun, hended, _, _, rfl, ?_, rE1, rE2, rE3, rE4.mono (by decide) (by decide)⟩
      · show Steps p.tables e below (T430.setTop (mkF m 48 #[.val (.int p0), .val (.int p1), .val (.int p2), .val (.int p3), .val (.int p4), .val (.int (1 : Int32)), .val (.int (2 : Int32)), .val (.int c_427), .val (.int c_428), .val (.int c_429), .val (.int c_430), .unset, .unset, .unset, .unset, .unset] [])) _
        refine XS.iload X430.here hx rfl (hb hby at_48) rfl ?_
        show Steps p.tables e below (T430.setTop (mkF m 50 #[.val (.int p0), .val (.int p1), .val (.int p2), .val (.int p3), .val (.int p4), .val (.int (1 : Int32)), .val (.int (2 : Int32)), .val (.int c_427), .val (.int c_428), .val (.int c_429), .val (.int c_430), .unset, .unset, .unset, .unset, .unset] [(.int (2 : Int32))])) _
        refine XS.ifYes X430.here hx rfl (pc0 := 50) (pc' := 60) rfl (hb hby at_50) rfl ((if0 _ _).trans (feq (by decide : ¬ ((2 : Int32) = (0 : Int32)))).2) (by decide) (by decide) ?_
        show Steps p.tables e below (T430.setTop (mkF m 60 #[.val (.int p0), .val (.int p1), .val (.int p2), .val (.int p3), .val (.int p4), .val (.int (1 : Int32)), .val (.int (2 : Int32)), .val (.int c_427), .val (.int c_428), .val (.int c_429), .val (.int c_430), .unset, .unset, .unset, .unset, .unset] [])) _
        refine XS.iload X430.here hx rfl (hb hby at_60) rfl ?_
        show Steps p.tables e below (T430.setTop (mkF m 62 #[.val (.int p0), .val (.int p1), .val (.int p2), .val (.int p3), .val (.int p4), .val (.int (1 : Int32)), .val (.int (2 : Int32)), .val (.int c_427), .val (.int c_428), .val (.int c_429), .val (.int c_430), .unset, .unset, .unset, .unset, .unset] [(.int (2 : Int32))])) _
        refine XS.iconst X430.here hx rfl (hb hby at_62) ?_
        show Steps p.tables e below (T430.setTop (mkF m 63 #[.val (.int p0), .val (.int p1), .val (.int p2), .val (.int p3), .val (.int p4), .val (.int (1 : Int32)), .val (.int (2 : Int32)), .val (.int c_427), .val (.int c_428), .val (.int c_429), .val (.int c_430), .unset, .unset, .unset, .unset, .unset] [(.int (1 : Int32)), (.int (2 : Int32))])) _
        refine XS.icmpYes X430.here hx rfl (pc0 := 63) (pc' := 86) rfl (hb hby at_63) rfl (feq (by decide : ¬ ((2 : Int32) = (1 : Int32)))).2 (by decide) (by decide) ?_
        show Steps p.tables e below (T430.setTop (mkF m 86 #[.val (.int p0), .val (.int p1), .val (.int p2), .val (.int p3), .val (.int p4), .val (.int (1 : Int32)), .val (.int (2 : Int32)), .val (.int c_427), .val (.int c_428), .val (.int c_429), .val (.int c_430), .unset, .unset, .unset, .unset, .unset] [])) _
        refine XS.iload X430.here hx rfl (hb hby at_86) rfl ?_
        show Steps p.tables e below (T430.setTop (mkF m 88 #[.val (.int p0), .val (.int p1), .val (.int p2), .val (.int p3), .val (.int p4), .val (.int (1 : Int32)), .val (.int (2 : Int32)), .val (.int c_427), .val (.int c_428), .val (.int c_429), .val (.int c_430), .unset, .unset, .unset, .unset, .unset] [(.int (2 : Int32))])) _
        refine XS.iconst X430.here hx rfl (hb hby at_88) ?_
        show Steps p.tables e below (T430.setTop (mkF m 89 #[.val (.int p0), .val (.int p1), .val (.int p2), .val (.int p3), .val (.int p4), .val (.int (1 : Int32)), .val (.int (2 : Int32)), .val (.int c_427), .val (.int c_428), .val (.int c_429), .val (.int c_430), .unset, .unset, .unset, .unset, .unset] [(.int (2 : Int32)), (.int (2 : Int32))])) _
        refine XS.icmpNo X430.here hx rfl (hb hby at_89) rfl (teq (by decide : (2 : Int32) = (2 : Int32))).2 ?_
        show Steps p.tables e below (T430.setTop (mkF m 92 #[.val (.int p0), .val (.int p1), .val (.int p2), .val (.int p3), .val (.int p4), .val (.int (1 : Int32)), .val (.int (2 : Int32)), .val (.int c_427), .val (.int c_428), .val (.int c_429), .val (.int c_430), .unset, .unset, .unset, .unset, .unset] [])) _
        refine st480 _ ?_
        show Steps p.tables e below (T480.setTop (mkF m 95 #[.val (.int p0), .val (.int p1), .val (.int p2), .val (.int p3), .val (.int p4), .val (.int (1 : Int32)), .val (.int (2 : Int32)), .val (.int c_427), .val (.int c_428), .val (.int c_429), .val (.int c_430), .unset, .unset, .unset, .unset, .unset] [(.ref b480)])) _
        refine XS.dup X480.here hx rfl (hb hby at_95) rfl rfl ?_
        show Steps p.tables e below (T480.setTop (mkF m 96 #[.val (.int p0), .val (.int p1), .val (.int p2), .val (.int p3), .val (.int p4), .val (.int (1 : Int32)), .val (.int (2 : Int32)), .val (.int c_427), .val (.int c_428), .val (.int c_429), .val (.int c_430), .unset, .unset, .unset, .unset, .unset] [(.ref b480), (.ref b480)])) _
        refine XS.iconst X480.here hx rfl (hb hby at_96) ?_
        show Steps p.tables e below (T480.setTop (mkF m 97 #[.val (.int p0), .val (.int p1), .val (.int p2), .val (.int p3), .val (.int p4), .val (.int (1 : Int32)), .val (.int (2 : Int32)), .val (.int c_427), .val (.int c_428), .val (.int c_429), .val (.int c_430), .unset, .unset, .unset, .unset, .unset] [(.int (2 : Int32)), (.ref b480), (.ref b480)])) _
        refine st484 _ ?_
        show Steps p.tables e below (T484.setTop (mkF m 99 #[.val (.int p0), .val (.int p1), .val (.int p2), .val (.int p3), .val (.int p4), .val (.int (1 : Int32)), .val (.int (2 : Int32)), .val (.int c_427), .val (.int c_428), .val (.int c_429), .val (.int c_430), .unset, .unset, .unset, .unset, .unset] [(.ref b484), (.ref b480), (.ref b480)])) _
        refine XS.dup X484.here hx rfl (hb hby at_99) rfl rfl ?_
        show Steps p.tables e below (T484.setTop (mkF m 100 #[.val (.int p0), .val (.int p1), .val (.int p2), .val (.int p3), .val (.int p4), .val (.int (1 : Int32)), .val (.int (2 : Int32)), .val (.int c_427), .val (.int c_428), .val (.int c_429), .val (.int c_430), .unset, .unset, .unset, .unset, .unset] [(.ref b484), (.ref b484), (.ref b480), (.ref b480)])) _
        refine XS.iconst X484.here hx rfl (hb hby at_100) ?_
        show Steps p.tables e below (T484.setTop (mkF m 101 #[.val (.int p0), .val (.int p1), .val (.int p2), .val (.int p3), .val (.int p4), .val (.int (1 : Int32)), .val (.int (2 : Int32)), .val (.int c_427), .val (.int c_428), .val (.int c_429), .val (.int c_430), .unset, .unset, .unset, .unset, .unset] [(.int (0 : Int32)), (.ref b484), (.ref b484), (.ref b480), (.ref b480)])) _
        refine XS.iload X484.here hx rfl (hb hby at_101) rfl ?_
        show Steps p.tables e below (T484.setTop (mkF m 103 #[.val (.int p0), .val (.int p1), .val (.int p2), .val (.int p3), .val (.int p4), .val (.int (1 : Int32)), .val (.int (2 : Int32)), .val (.int c_427), .val (.int c_428), .val (.int c_429), .val (.int c_430), .unset, .unset, .unset, .unset, .unset] [(.int c_427), (.int (0 : Int32)), (.ref b484), (.ref b484), (.ref b480), (.ref b480)])) _
        refine st489 _ ?_
        show Steps p.tables e below (T489.setTop (mkF m 104 #[.val (.int p0), .val (.int p1), .val (.int p2), .val (.int p3), .val (.int p4), .val (.int (1 : Int32)), .val (.int (2 : Int32)), .val (.int c_427), .val (.int c_428), .val (.int c_429), .val (.int c_430), .unset, .unset, .unset, .unset, .unset] [(.ref b484), (.ref b480), (.ref b480)])) _
        refine XS.dup X489.here hx rfl (hb hby at_104) rfl rfl ?_
        show Steps p.tables e below (T489.setTop (mkF m 105 #[.val (.int p0), .val (.int p1), .val (.int p2), .val (.int p3), .val (.int p4), .val (.int (1 : Int32)), .val (.int (2 : Int32)), .val (.int c_427), .val (.int c_428), .val (.int c_429), .val (.int c_430), .unset, .unset, .unset, .unset, .unset] [(.ref b484), (.ref b484), (.ref b480), (.ref b480)])) _
        refine XS.iconst X489.here hx rfl (hb hby at_105) ?_
        show Steps p.tables e below (T489.setTop (mkF m 106 #[.val (.int p0), .val (.int p1), .val (.int p2), .val (.int p3), .val (.int p4), .val (.int (1 : Int32)), .val (.int (2 : Int32)), .val (.int c_427), .val (.int c_428), .val (.int c_429), .val (.int c_430), .unset, .unset, .unset, .unset, .unset] [(.int (1 : Int32)), (.ref b484), (.ref b484), (.ref b480), (.ref b480)])) _
        refine XS.iload X489.here hx rfl (hb hby at_106) rfl ?_
        show Steps p.tables e below (T489.setTop (mkF m 108 #[.val (.int p0), .val (.int p1), .val (.int p2), .val (.int p3), .val (.int p4), .val (.int (1 : Int32)), .val (.int (2 : Int32)), .val (.int c_427), .val (.int c_428), .val (.int c_429), .val (.int c_430), .unset, .unset, .unset, .unset, .unset] [(.int c_428), (.int (1 : Int32)), (.ref b484), (.ref b484), (.ref b480), (.ref b480)])) _
        refine st493 _ ?_
        show Steps p.tables e below (T493.setTop (mkF m 109 #[.val (.int p0), .val (.int p1), .val (.int p2), .val (.int p3), .val (.int p4), .val (.int (1 : Int32)), .val (.int (2 : Int32)), .val (.int c_427), .val (.int c_428), .val (.int c_429), .val (.int c_430), .unset, .unset, .unset, .unset, .unset] [(.ref b484), (.ref b480), (.ref b480)])) _
        refine st496.trans ?_
        show Steps p.tables e below (T496.setTop (mkF m 112 #[.val (.int p0), .val (.int p1), .val (.int p2), .val (.int p3), .val (.int p4), .val (.int (1 : Int32)), .val (.int (2 : Int32)), .val (.int c_427), .val (.int c_428), .val (.int c_429), .val (.int c_430), .unset, .unset, .unset, .unset, .unset] [(.ref b480)])) _
        refine XS.astore X496.here hx rfl (hb hby at_112) rfl rfl (l' := #[.val (.int p0), .val (.int p1), .val (.int p2), .val (.int p3), .val (.int p4), .val (.int (1 : Int32)), .val (.int (2 : Int32)), .val (.int c_427), .val (.int c_428), .val (.int c_429), .val (.int c_430), .val (.ref b480), .unset, .unset, .unset, .unset]) rfl ?_
        show Steps p.tables e below (T496.setTop (mkF m 114 #[.val (.int p0), .val (.int p1), .val (.int p2), .val (.int p3), .val (.int p4), .val (.int (1 : Int32)), .val (.int (2 : Int32)), .val (.int c_427), .val (.int c_428), .val (.int c_429), .val (.int c_430), .val (.ref b480), .unset, .unset, .unset, .unset] [])) _
        refine XS.goto X496.here hx rfl (pc0 := 114) (pc' := 185) rfl (hb hby at_114) (by decide) (by decide) ?_
        show Steps p.tables e below (T496.setTop (mkF m 185 #[.val (.int p0), .val (.int p1), .val (.int p2), .val (.int p3), .val (.int p4), .val (.int (1 : Int32)), .val (.int (2 : Int32)), .val (.int c_427), .val (.int c_428), .val (.int c_429), .val (.int c_430), .val (.ref b480), .unset, .unset, .unset, .unset] [])) _
        refine XS.iload X496.here hx rfl (hb hby at_185) rfl ?_
        show Steps p.tables e below (T496.setTop (mkF m 187 #[.val (.int p0), .val (.int p1), .val (.int p2), .val (.int p3), .val (.int p4), .val (.int (1 : Int32)), .val (.int (2 : Int32)), .val (.int c_427), .val (.int c_428), .val (.int c_429), .val (.int c_430), .val (.ref b480), .unset, .unset, .unset, .unset] [(.int (1 : Int32))])) _
        refine XS.ifNo X496.here hx rfl (hb hby at_187) rfl ((if0 _ _).trans (feq (by decide : ¬ ((1 : Int32) = (0 : Int32)))).1) ?_
        show Steps p.tables e below (T496.setTop (mkF m 190 #[.val (.int p0), .val (.int p1), .val (.int p2), .val (.int p3), .val (.int p4), .val (.int (1 : Int32)), .val (.int (2 : Int32)), .val (.int c_427), .val (.int c_428), .val (.int c_429), .val (.int c_430), .val (.ref b480), .unset, .unset, .unset, .unset] [])) _
        refine st506 _ ?_
        show Steps p.tables e below (T506.setTop (mkF m 193 #[.val (.int p0), .val (.int p1), .val (.int p2), .val (.int p3), .val (.int p4), .val (.int (1 : Int32)), .val (.int (2 : Int32)), .val (.int c_427), .val (.int c_428), .val (.int c_429), .val (.int c_430), .val (.ref b480), .unset, .unset, .unset, .unset] [(.ref wF)])) _
        refine XS.goto X506.here hx rfl (pc0 := 193) (pc' := 199) rfl (hb hby at_193) (by decide) (by decide) ?_
        show Steps p.tables e below (T506.setTop (mkF m 199 #[.val (.int p0), .val (.int p1), .val (.int p2), .val (.int p3), .val (.int p4), .val (.int (1 : Int32)), .val (.int (2 : Int32)), .val (.int c_427), .val (.int c_428), .val (.int c_429), .val (.int c_430), .val (.ref b480), .unset, .unset, .unset, .unset] [(.ref wF)])) _
        refine XS.astore X506.here hx rfl (hb hby at_199) rfl rfl (l' := #[.val (.int p0), .val (.int p1), .val (.int p2), .val (.int p3), .val (.int p4), .val (.int (1 : Int32)), .val (.int (2 : Int32)), .val (.int c_427), .val (.int c_428), .val (.int c_429), .val (.int c_430), .val (.ref b480), .val (.ref wF), .unset, .unset, .unset]) rfl ?_
        show Steps p.tables e below (T506.setTop (mkF m 201 #[.val (.int p0), .val (.int p1), .val (.int p2), .val (.int p3), .val (.int p4), .val (.int (1 : Int32)), .val (.int (2 : Int32)), .val (.int c_427), .val (.int c_428), .val (.int c_429), .val (.int c_430), .val (.ref b480), .val (.ref wF), .unset, .unset, .unset] [])) _
        refine XS.iload X506.here hx rfl (hb hby at_201) rfl ?_
        show Steps p.tables e below (T506.setTop (mkF m 203 #[.val (.int p0), .val (.int p1), .val (.int p2), .val (.int p3), .val (.int p4), .val (.int (1 : Int32)), .val (.int (2 : Int32)), .val (.int c_427), .val (.int c_428), .val (.int c_429), .val (.int c_430), .val (.ref b480), .val (.ref wF), .unset, .unset, .unset] [(.int (2 : Int32))])) _
        refine XS.iconst X506.here hx rfl (hb hby at_203) ?_
        show Steps p.tables e below (T506.setTop (mkF m 204 #[.val (.int p0), .val (.int p1), .val (.int p2), .val (.int p3), .val (.int p4), .val (.int (1 : Int32)), .val (.int (2 : Int32)), .val (.int c_427), .val (.int c_428), .val (.int c_429), .val (.int c_430), .val (.ref b480), .val (.ref wF), .unset, .unset, .unset] [(.int (3 : Int32)), (.int (2 : Int32))])) _
        refine XS.icmpYes X506.here hx rfl (pc0 := 204) (pc' := 232) rfl (hb hby at_204) rfl (feq (by decide : ¬ ((2 : Int32) = (3 : Int32)))).2 (by decide) (by decide) ?_
        show Steps p.tables e below (T506.setTop (mkF m 232 #[.val (.int p0), .val (.int p1), .val (.int p2), .val (.int p3), .val (.int p4), .val (.int (1 : Int32)), .val (.int (2 : Int32)), .val (.int c_427), .val (.int c_428), .val (.int c_429), .val (.int c_430), .val (.ref b480), .val (.ref wF), .unset, .unset, .unset] [])) _
        refine XS.iconst X506.here hx rfl (hb hby at_232) ?_
        show Steps p.tables e below (T506.setTop (mkF m 233 #[.val (.int p0), .val (.int p1), .val (.int p2), .val (.int p3), .val (.int p4), .val (.int (1 : Int32)), .val (.int (2 : Int32)), .val (.int c_427), .val (.int c_428), .val (.int c_429), .val (.int c_430), .val (.ref b480), .val (.ref wF), .unset, .unset, .unset] [(.int (0 : Int32))])) _
        refine XS.istore X506.here hx rfl (hb hby at_233) rfl (l' := #[.val (.int p0), .val (.int p1), .val (.int p2), .val (.int p3), .val (.int p4), .val (.int (1 : Int32)), .val (.int (2 : Int32)), .val (.int c_427), .val (.int c_428), .val (.int c_429), .val (.int c_430), .val (.ref b480), .val (.ref wF), .val (.int (0 : Int32)), .unset, .unset]) rfl ?_
        show Steps p.tables e below (T506.setTop (mkF m 235 #[.val (.int p0), .val (.int p1), .val (.int p2), .val (.int p3), .val (.int p4), .val (.int (1 : Int32)), .val (.int (2 : Int32)), .val (.int c_427), .val (.int c_428), .val (.int c_429), .val (.int c_430), .val (.ref b480), .val (.ref wF), .val (.int (0 : Int32)), .unset, .unset] [])) _
        refine XS.iload X506.here hx rfl (hb hby at_235) rfl ?_
        show Steps p.tables e below (T506.setTop (mkF m 237 #[.val (.int p0), .val (.int p1), .val (.int p2), .val (.int p3), .val (.int p4), .val (.int (1 : Int32)), .val (.int (2 : Int32)), .val (.int c_427), .val (.int c_428), .val (.int c_429), .val (.int c_430), .val (.ref b480), .val (.ref wF), .val (.int (0 : Int32)), .unset, .unset] [(.int (2 : Int32))])) _
        refine XS.iconst X506.here hx rfl (hb hby at_237) ?_
        show Steps p.tables e below (T506.setTop (mkF m 238 #[.val (.int p0), .val (.int p1), .val (.int p2), .val (.int p3), .val (.int p4), .val (.int (1 : Int32)), .val (.int (2 : Int32)), .val (.int c_427), .val (.int c_428), .val (.int c_429), .val (.int c_430), .val (.ref b480), .val (.ref wF), .val (.int (0 : Int32)), .unset, .unset] [(.int (4 : Int32)), (.int (2 : Int32))])) _
        refine XS.icmpYes X506.here hx rfl (pc0 := 238) (pc' := 273) rfl (hb hby at_238) rfl (feq (by decide : ¬ ((2 : Int32) = (4 : Int32)))).2 (by decide) (by decide) ?_
        show Steps p.tables e below (T506.setTop (mkF m 273 #[.val (.int p0), .val (.int p1), .val (.int p2), .val (.int p3), .val (.int p4), .val (.int (1 : Int32)), .val (.int (2 : Int32)), .val (.int c_427), .val (.int c_428), .val (.int c_429), .val (.int c_430), .val (.ref b480), .val (.ref wF), .val (.int (0 : Int32)), .unset, .unset] [])) _
        refine XS.iconst X506.here hx rfl (hb hby at_273) ?_
        show Steps p.tables e below (T506.setTop (mkF m 274 #[.val (.int p0), .val (.int p1), .val (.int p2), .val (.int p3), .val (.int p4), .val (.int (1 : Int32)), .val (.int (2 : Int32)), .val (.int c_427), .val (.int c_428), .val (.int c_429), .val (.int c_430), .val (.ref b480), .val (.ref wF), .val (.int (0 : Int32)), .unset, .unset] [(.int (0 : Int32))])) _
        refine XS.istore X506.here hx rfl (hb hby at_274) rfl (l' := #[.val (.int p0), .val (.int p1), .val (.int p2), .val (.int p3), .val (.int p4), .val (.int (1 : Int32)), .val (.int (2 : Int32)), .val (.int c_427), .val (.int c_428), .val (.int c_429), .val (.int c_430), .val (.ref b480), .val (.ref wF), .val (.int (0 : Int32)), .val (.int (0 : Int32)), .unset]) rfl ?_
        show Steps p.tables e below (T506.setTop (mkF m 276 #[.val (.int p0), .val (.int p1), .val (.int p2), .val (.int p3), .val (.int p4), .val (.int (1 : Int32)), .val (.int (2 : Int32)), .val (.int c_427), .val (.int c_428), .val (.int c_429), .val (.int c_430), .val (.ref b480), .val (.ref wF), .val (.int (0 : Int32)), .val (.int (0 : Int32)), .unset] [])) _
        refine XS.iload X506.here hx rfl (hb hby at_276) rfl ?_
        show Steps p.tables e below (T506.setTop (mkF m 278 #[.val (.int p0), .val (.int p1), .val (.int p2), .val (.int p3), .val (.int p4), .val (.int (1 : Int32)), .val (.int (2 : Int32)), .val (.int c_427), .val (.int c_428), .val (.int c_429), .val (.int c_430), .val (.ref b480), .val (.ref wF), .val (.int (0 : Int32)), .val (.int (0 : Int32)), .unset] [(.int (1 : Int32))])) _
        refine XS.ifYes X506.here hx rfl (pc0 := 278) (pc' := 291) rfl (hb hby at_278) rfl ((if0 _ _).trans (feq (by decide : ¬ ((1 : Int32) = (0 : Int32)))).2) (by decide) (by decide) ?_
        show Steps p.tables e below (T506.setTop (mkF m 291 #[.val (.int p0), .val (.int p1), .val (.int p2), .val (.int p3), .val (.int p4), .val (.int (1 : Int32)), .val (.int (2 : Int32)), .val (.int c_427), .val (.int c_428), .val (.int c_429), .val (.int c_430), .val (.ref b480), .val (.ref wF), .val (.int (0 : Int32)), .val (.int (0 : Int32)), .unset] [])) _
        refine XS.iconst X506.here hx rfl (hb hby at_291) ?_
        show Steps p.tables e below (T506.setTop (mkF m 292 #[.val (.int p0), .val (.int p1), .val (.int p2), .val (.int p3), .val (.int p4), .val (.int (1 : Int32)), .val (.int (2 : Int32)), .val (.int c_427), .val (.int c_428), .val (.int c_429), .val (.int c_430), .val (.ref b480), .val (.ref wF), .val (.int (0 : Int32)), .val (.int (0 : Int32)), .unset] [(.int (1 : Int32))])) _
        refine XS.goto X506.here hx rfl (pc0 := 292) (pc' := 296) rfl (hb hby at_292) (by decide) (by decide) ?_
        show Steps p.tables e below (T506.setTop (mkF m 296 #[.val (.int p0), .val (.int p1), .val (.int p2), .val (.int p3), .val (.int p4), .val (.int (1 : Int32)), .val (.int (2 : Int32)), .val (.int c_427), .val (.int c_428), .val (.int c_429), .val (.int c_430), .val (.ref b480), .val (.ref wF), .val (.int (0 : Int32)), .val (.int (0 : Int32)), .unset] [(.int (1 : Int32))])) _
        refine XS.istore X506.here hx rfl (hb hby at_296) rfl (l' := #[.val (.int p0), .val (.int p1), .val (.int p2), .val (.int p3), .val (.int p4), .val (.int (1 : Int32)), .val (.int (2 : Int32)), .val (.int c_427), .val (.int c_428), .val (.int c_429), .val (.int c_430), .val (.ref b480), .val (.ref wF), .val (.int (0 : Int32)), .val (.int (0 : Int32)), .val (.int (1 : Int32))]) rfl ?_
        show Steps p.tables e below (T506.setTop (mkF m 298 #[.val (.int p0), .val (.int p1), .val (.int p2), .val (.int p3), .val (.int p4), .val (.int (1 : Int32)), .val (.int (2 : Int32)), .val (.int c_427), .val (.int c_428), .val (.int c_429), .val (.int c_430), .val (.ref b480), .val (.ref wF), .val (.int (0 : Int32)), .val (.int (0 : Int32)), .val (.int (1 : Int32))] [])) _
        refine XS.aload X506.here hx rfl (hb hby at_298) rfl rfl ?_
        show Steps p.tables e below (T506.setTop (mkF m 300 #[.val (.int p0), .val (.int p1), .val (.int p2), .val (.int p3), .val (.int p4), .val (.int (1 : Int32)), .val (.int (2 : Int32)), .val (.int c_427), .val (.int c_428), .val (.int c_429), .val (.int c_430), .val (.ref b480), .val (.ref wF), .val (.int (0 : Int32)), .val (.int (0 : Int32)), .val (.int (1 : Int32))] [(.ref wF)])) _
        refine XS.aload X506.here hx rfl (hb hby at_300) rfl rfl ?_
        show Steps p.tables e below (T506.setTop (mkF m 302 #[.val (.int p0), .val (.int p1), .val (.int p2), .val (.int p3), .val (.int p4), .val (.int (1 : Int32)), .val (.int (2 : Int32)), .val (.int c_427), .val (.int c_428), .val (.int c_429), .val (.int c_430), .val (.ref b480), .val (.ref wF), .val (.int (0 : Int32)), .val (.int (0 : Int32)), .val (.int (1 : Int32))] [(.ref b480), (.ref wF)])) _
        refine st509.trans ?_
        show Steps p.tables e below (T509.setTop (mkF m 305 #[.val (.int p0), .val (.int p1), .val (.int p2), .val (.int p3), .val (.int p4), .val (.int (1 : Int32)), .val (.int (2 : Int32)), .val (.int c_427), .val (.int c_428), .val (.int c_429), .val (.int c_430), .val (.ref b480), .val (.ref wF), .val (.int (0 : Int32)), .val (.int (0 : Int32)), .val (.int (1 : Int32))] [(.int (1 : Int32))])) _
        refine XS.iload X509.here hx rfl (hb hby at_305) rfl ?_
        show Steps p.tables e below (T509.setTop (mkF m 307 #[.val (.int p0), .val (.int p1), .val (.int p2), .val (.int p3), .val (.int p4), .val (.int (1 : Int32)), .val (.int (2 : Int32)), .val (.int c_427), .val (.int c_428), .val (.int c_429), .val (.int c_430), .val (.ref b480), .val (.ref wF), .val (.int (0 : Int32)), .val (.int (0 : Int32)), .val (.int (1 : Int32))] [(.int (1 : Int32)), (.int (1 : Int32))])) _
        refine XS.icmpNo X509.here hx rfl (hb hby at_307) rfl (teq (by decide : (1 : Int32) = (1 : Int32))).2 ?_
        show Steps p.tables e below (T509.setTop (mkF m 310 #[.val (.int p0), .val (.int p1), .val (.int p2), .val (.int p3), .val (.int p4), .val (.int (1 : Int32)), .val (.int (2 : Int32)), .val (.int c_427), .val (.int c_428), .val (.int c_429), .val (.int c_430), .val (.ref b480), .val (.ref wF), .val (.int (0 : Int32)), .val (.int (0 : Int32)), .val (.int (1 : Int32))] [])) _
        refine XS.iconst X509.here hx rfl (hb hby at_310) ?_
        show Steps p.tables e below (T509.setTop (mkF m 311 #[.val (.int p0), .val (.int p1), .val (.int p2), .val (.int p3), .val (.int p4), .val (.int (1 : Int32)), .val (.int (2 : Int32)), .val (.int c_427), .val (.int c_428), .val (.int c_429), .val (.int c_430), .val (.ref b480), .val (.ref wF), .val (.int (0 : Int32)), .val (.int (0 : Int32)), .val (.int (1 : Int32))] [(.int (1 : Int32))])) _
        refine XS.goto X509.here hx rfl (pc0 := 311) (pc' := 315) rfl (hb hby at_311) (by decide) (by decide) ?_
        show Steps p.tables e below (T509.setTop (mkF m 315 #[.val (.int p0), .val (.int p1), .val (.int p2), .val (.int p3), .val (.int p4), .val (.int (1 : Int32)), .val (.int (2 : Int32)), .val (.int c_427), .val (.int c_428), .val (.int c_429), .val (.int c_430), .val (.ref b480), .val (.ref wF), .val (.int (0 : Int32)), .val (.int (0 : Int32)), .val (.int (1 : Int32))] [(.int (1 : Int32))])) _
        exact retN X509 hx (t := .boolean) Bd.returns (by simp) (hb hby at_315) hr
      · show Qrm0 Z p0 p1 p2 p3 p4 wF wR G1 h0 n0 _ T509.heap _
        exact ⟨rfl, (fun y hy => Nat.le_trans Z0 (N509 y hy)), KC513⟩
    · have pre514 : ∀ t, Steps p.tables e below (T430.setTop (mkF m 48 #[.val (.int p0), .val (.int p1), .val (.int p2), .val (.int p3), .val (.int p4), .val (.int (1 : Int32)), .val (.int (3 : Int32)), .val (.int c_427), .val (.int c_428), .val (.int c_429), .val (.int c_430), .unset, .unset, .unset, .unset, .unset] [])) t → Steps p.tables e below (s₁.setTop (entryFrame m #[(.int p0), (.int p1), (.int p2), (.int p3), (.int p4)] maxLocals)) t := fun t k => pre431 t (by rw [hv432]; exact k)
      obtain ⟨T515, h515, X515, e515, E515, A515, D515, -, st515⟩ := newO X430 hx hZ hown (hw _ (List.mem_of_getElem? (i := 38) rfl)) (hw _ (List.mem_of_getElem? (i := 6) rfl)) (hw _ (List.mem_of_getElem? (i := 5) rfl)) e430 (g := (mkF m 123 #[.val (.int p0), .val (.int p1), .val (.int p2), .val (.int p3), .val (.int p4), .val (.int (1 : Int32)), .val (.int (3 : Int32)), .val (.int c_427), .val (.int c_428), .val (.int c_429), .val (.int c_430), .unset, .unset, .unset, .unset, .unset] [])) rfl (hb hby at_123) (by decide) (by decide)
      obtain ⟨b515, g515⟩ : ∃ z, z = h0.size := ⟨_, rfl⟩
      rw [← g515] at A515 D515 st515
      have z516 := E515.1
      have KC517 : Keep h0 h515 [] := KC0.ext E515
      have z518 : @LT.lt Nat _ b515 (Array.size h515) := A515.lt
      have F515_value : Fld Z h515 b515 "java/lang/String" "value" "[B" .null := D515 (Or.inr (hw _ (List.mem_of_getElem? (i := 8) rfl))) (ty := (.array .byte)) (by decide)
      have F515_coder : Fld Z h515 b515 "java/lang/String" "coder" "B" (.int (0 : Int32)) := D515 (Or.inr (hw _ (List.mem_of_getElem? (i := 9) rfl))) (ty := .byte) (by decide)
      obtain ⟨T519, h519, k519, X519, e519, E519, A519, st519⟩ := newP X515 hx hZ (hw _ (List.mem_of_getElem? (i := 39) rfl)) e515 (g := (mkF m 128 #[.val (.int p0), .val (.int p1), .val (.int p2), .val (.int p3), .val (.int p4), .val (.int (1 : Int32)), .val (.int (3 : Int32)), .val (.int c_427), .val (.int c_428), .val (.int c_429), .val (.int c_430), .unset, .unset, .unset, .unset, .unset] [(.int (3 : Int32)), (.ref b515), (.ref b515)])) rfl (hb hby at_128) rfl (by decide) (cap := 3) (by decide) (by decide) (by decide) (by decide)
      obtain ⟨b519, g519⟩ : ∃ z, z = h515.size := ⟨_, rfl⟩
      rw [← g519] at A519 st519
      have z520 := E519.1
      have KC521 : Keep h0 h519 [] := KC517.ext E519
      have V519 : Arv Z h519 b519 k519 .char (3 : Int32) [(.int (0 : Int32)), (.int (0 : Int32)), (.int (0 : Int32))] (.int (0 : Int32)) := (Arv.new A519 (by decide)).pad (pad_rep [] (.int (0 : Int32)) 3)
      have z522 : @LT.lt Nat _ b519 (Array.size h519) := V519.lt
      obtain ⟨cl523, Ar523, q523, S523, N523', H523, G523⟩ := id V519
      have hin523 : ¬ ((0 : Int32) < 0 ∨ cl523.slots.size ≤ ((0 : Int32)).toNatClampNeg) := inb_of S523 ⟨by decide, by decide⟩
      obtain ⟨T524, h524, X524, e524, W524, st524⟩ := stC X519 hx hZ e519 Ar523 (j := (0 : Int32)) hin523 (g := (mkF m 134 #[.val (.int p0), .val (.int p1), .val (.int p2), .val (.int p3), .val (.int p4), .val (.int (1 : Int32)), .val (.int (3 : Int32)), .val (.int c_427), .val (.int c_428), .val (.int c_429), .val (.int c_430), .unset, .unset, .unset, .unset, .unset] [(.int c_427), (.int (0 : Int32)), (.ref b519), (.ref b519), (.ref b515), (.ref b515)])) rfl rfl (hb hby at_134)
      have z525 := W524.size
      have N524 := Fr.snoc X524 N430 (by omega : h0.size ≤ b519)
      have KC526 : Keep h0 h524 [] := KC521.wr W524 (Or.inr (by omega))
      have V524 : Arv Z h524 b519 k519 .char (3 : Int32) [(.int (nar .char c_427)), (.int (0 : Int32)), (.int (0 : Int32))] (.int (0 : Int32)) := Arv.set Ar523 q523 S523 N523' H523 G523 (fits_nar_char _) W524 0 rfl (Nat.le_of_ble_eq_true rfl)
      rw [P427_1] at V524
      obtain ⟨cl527, Ar527, q527, S527, N527', H527, G527⟩ := id V524
      have hin527 : ¬ ((1 : Int32) < 0 ∨ cl527.slots.size ≤ ((1 : Int32)).toNatClampNeg) := inb_of S527 ⟨by decide, by decide⟩
      obtain ⟨T528, h528, X528, e528, W528, st528⟩ := stC X524 hx hZ e524 Ar527 (j := (1 : Int32)) hin527 (g := (mkF m 139 #[.val (.int p0), .val (.int p1), .val (.int p2), .val (.int p3), .val (.int p4), .val (.int (1 : Int32)), .val (.int (3 : Int32)), .val (.int c_427), .val (.int c_428), .val (.int c_429), .val (.int c_430), .unset, .unset, .unset, .unset, .unset] [(.int c_428), (.int (1 : Int32)), (.ref b519), (.ref b519), (.ref b515), (.ref b515)])) rfl rfl (hb hby at_139)
      have z529 := W528.size
      have N528 := Fr.snoc X528 N524 (by omega : h0.size ≤ b519)
      have KC530 : Keep h0 h528 [] := KC526.wr W528 (Or.inr (by omega))
      have V528 : Arv Z h528 b519 k519 .char (3 : Int32) [(.int c_427), (.int (nar .char c_428)), (.int (0 : Int32))] (.int (0 : Int32)) := Arv.set Ar527 q527 S527 N527' H527 G527 (fits_nar_char _) W528 1 rfl (Nat.le_of_ble_eq_true rfl)
      rw [P428_1] at V528
      obtain ⟨cl531, Ar531, q531, S531, N531', H531, G531⟩ := id V528
      have hin531 : ¬ ((2 : Int32) < 0 ∨ cl531.slots.size ≤ ((2 : Int32)).toNatClampNeg) := inb_of S531 ⟨by decide, by decide⟩
      obtain ⟨T532, h532, X532, e532, W532, st532⟩ := stC X528 hx hZ e528 Ar531 (j := (2 : Int32)) hin531 (g := (mkF m 144 #[.val (.int p0), .val (.int p1), .val (.int p2), .val (.int p3), .val (.int p4), .val (.int (1 : Int32)), .val (.int (3 : Int32)), .val (.int c_427), .val (.int c_428), .val (.int c_429), .val (.int c_430), .unset, .unset, .unset, .unset, .unset] [(.int c_429), (.int (2 : Int32)), (.ref b519), (.ref b519), (.ref b515), (.ref b515)])) rfl rfl (hb hby at_144)
      have z533 := W532.size
      have N532 := Fr.snoc X532 N528 (by omega : h0.size ≤ b519)
      have KC534 : Keep h0 h532 [] := KC530.wr W532 (Or.inr (by omega))
      have V532 : Arv Z h532 b519 k519 .char (3 : Int32) [(.int c_427), (.int c_428), (.int (nar .char c_429))] (.int (0 : Int32)) := Arv.set Ar531 q531 S531 N531' H531 G531 (fits_nar_char _) W532 2 rfl (Nat.le_of_ble_eq_true rfl)
      rw [P429_1] at V532
      have Fc536 := ((((A515.ext E519).wr W524).wr W528).wr W532)
      have Fc537 := ((((F515_value.ext E519).other W524 (Or.inl (by omega : @Ne Nat b515 b519))).other W528 (Or.inl (by omega : @Ne Nat b515 b519))).other W532 (Or.inl (by omega : @Ne Nat b515 b519)))
      have Fc538 := ((((F515_coder.ext E519).other W524 (Or.inl (by omega : @Ne Nat b515 b519))).other W528 (Or.inl (by omega : @Ne Nat b515 b519))).other W532 (Or.inl (by omega : @Ne Nat b515 b519)))
      have Fc539 := (((((H4.ext E515).ext E519).wr W524).wr W528).wr W532)
      have hp535 : ∀ c ∈ ([c_427, c_428, c_429] : List Int32), ¬ c < 0 ∧ ¬ (255 : Int32) < c := by
        intro c hc
        simp only [List.mem_cons, List.not_mem_nil, or_false] at hc
        rcases hc with rfl | rfl | rfl
        · exact P427_0
        · exact P428_0
        · exact P429_0
      obtain ⟨_, _, ⟨T535, L535, k535, n535⟩, -, X535, ⟨Lc535, hQ535, l535, y535, z535⟩, st535⟩ := X532.specialBack hx (y := (⟨"java/lang/String", "<init>", "([C)V"⟩ : MethodName)) rfl hown (mvT hZ (hw _ (List.mem_of_getElem? (i := 40) rfl))) (mvT hZ (hw _ (List.mem_of_getElem? (i := 41) rfl))) (mvT hZ (hw _ (List.mem_of_getElem? (i := 42) rfl))) (by decide) (StrChars.Road.backV (W := 1) hZ (fun d hd => hw d (own_words d hd)) (kI := 4) (hw _ (List.mem_of_getElem? (i := 6) rfl)) (cs := ([c_427, c_428, c_429] : List Int32)) (bs := (([c_427, c_428, c_429] : List Int32)).map (fun c => c.toInt8.toInt32)) (n := 3) (by omega : h0.size ≤ b515) (by omega : h0.size ≤ h532.size) Fc536 Fc537 Fc538 V532 Fc539 hG1 rfl rfl (by decide) (by decide) hp535 rfl (by decide) (by decide)) (g := (mkF m 145 #[.val (.int p0), .val (.int p1), .val (.int p2), .val (.int p3), .val (.int p4), .val (.int (1 : Int32)), .val (.int (3 : Int32)), .val (.int c_427), .val (.int c_428), .val (.int c_429), .val (.int c_430), .unset, .unset, .unset, .unset, .unset] [(.ref b519), (.ref b515), (.ref b515)])) rfl (by rw [hml]; rfl) (Steps.refl _) (a := b515) (argsL := [(.ref b519)]) (rest := [(.ref b515)]) (lenOf pd_3 rfl) rfl (by show 2 * 0 + _ ≤ _; exact Nat.le_of_eq rfl) (hb hby at_145) (fun _ _ => ⟨rfl, e532, (by decide : 2 + 1 ≤ _), (by decide : 7 + 3 ≤ _)⟩)
      dsimp only [Pt.U, Pt.locs, Pt.cells, Pt.slots] at X535 l535 y535 z535 st535 hQ535
      subst l535 y535 z535
      obtain ⟨rfl, N535q, K535, P535E, P535C, bv535, kb535, u535a, u535b, u535c, P535V, P535A⟩ := hQ535
      have N535 := Fr.app N532 N535q
      have z540 := K535.1
      have KC541 : Keep h0 T535.heap [] := KC534.trans K535 (allS (Or.inr (by omega)) all0)
      have P535B : Arv Z T535.heap bv535 kb535 .byte (3 : Int32) [(.int (c_427).toInt8.toInt32), (.int (c_428).toInt8.toInt32), (.int (c_429).toInt8.toInt32)] (.int (0 : Int32)) := P535A
      have z542 : @LT.lt Nat _ b515 (Array.size T535.heap) := P535E.lt
      have z543 : @LT.lt Nat _ bv535 (Array.size T535.heap) := P535A.lt
      have Fc544 := (own_staK (((((H0.ext E515).ext E519).wr W524).wr W528).wr W532) K535 (allS ⟨_, Fc536⟩ all0))
      obtain ⟨T545, X545, e545, st545⟩ := getS2 X535 hx hZ hown (host := "") (Or.inl (hw _ (List.mem_of_getElem? (i := 59) rfl))) Via.refl rfl Fc544 (g := (mkF m 190 #[.val (.int p0), .val (.int p1), .val (.int p2), .val (.int p3), .val (.int p4), .val (.int (1 : Int32)), .val (.int (3 : Int32)), .val (.int c_427), .val (.int c_428), .val (.int c_429), .val (.int c_430), .val (.ref b515), .unset, .unset, .unset, .unset] [])) rfl (hb hby at_190)
      have pre546 : ∀ t, Steps p.tables e below (T545.setTop (mkF m 211 #[.val (.int p0), .val (.int p1), .val (.int p2), .val (.int p3), .val (.int p4), .val (.int (1 : Int32)), .val (.int (3 : Int32)), .val (.int c_427), .val (.int c_428), .val (.int c_429), .val (.int c_430), .val (.ref b515), .val (.ref wF), .unset, .unset, .unset] [(.int (71 : Int32)), (.int c_427)])) t → Steps p.tables e below (s₁.setTop (entryFrame m #[(.int p0), (.int p1), (.int p2), (.int p3), (.int p4)] maxLocals)) t := fun t k => by
        refine pre514 _ ?_
        show Steps p.tables e below (T430.setTop (mkF m 48 #[.val (.int p0), .val (.int p1), .val (.int p2), .val (.int p3), .val (.int p4), .val (.int (1 : Int32)), .val (.int (3 : Int32)), .val (.int c_427), .val (.int c_428), .val (.int c_429), .val (.int c_430), .unset, .unset, .unset, .unset, .unset] [])) _
        refine XS.iload X430.here hx rfl (hb hby at_48) rfl ?_
        show Steps p.tables e below (T430.setTop (mkF m 50 #[.val (.int p0), .val (.int p1), .val (.int p2), .val (.int p3), .val (.int p4), .val (.int (1 : Int32)), .val (.int (3 : Int32)), .val (.int c_427), .val (.int c_428), .val (.int c_429), .val (.int c_430), .unset, .unset, .unset, .unset, .unset] [(.int (3 : Int32))])) _
        refine XS.ifYes X430.here hx rfl (pc0 := 50) (pc' := 60) rfl (hb hby at_50) rfl ((if0 _ _).trans (feq (by decide : ¬ ((3 : Int32) = (0 : Int32)))).2) (by decide) (by decide) ?_
        show Steps p.tables e below (T430.setTop (mkF m 60 #[.val (.int p0), .val (.int p1), .val (.int p2), .val (.int p3), .val (.int p4), .val (.int (1 : Int32)), .val (.int (3 : Int32)), .val (.int c_427), .val (.int c_428), .val (.int c_429), .val (.int c_430), .unset, .unset, .unset, .unset, .unset] [])) _
        refine XS.iload X430.here hx rfl (hb hby at_60) rfl ?_
        show Steps p.tables e below (T430.setTop (mkF m 62 #[.val (.int p0), .val (.int p1), .val (.int p2), .val (.int p3), .val (.int p4), .val (.int (1 : Int32)), .val (.int (3 : Int32)), .val (.int c_427), .val (.int c_428), .val (.int c_429), .val (.int c_430), .unset, .unset, .unset, .unset, .unset] [(.int (3 : Int32))])) _
        refine XS.iconst X430.here hx rfl (hb hby at_62) ?_
        show Steps p.tables e below (T430.setTop (mkF m 63 #[.val (.int p0), .val (.int p1), .val (.int p2), .val (.int p3), .val (.int p4), .val (.int (1 : Int32)), .val (.int (3 : Int32)), .val (.int c_427), .val (.int c_428), .val (.int c_429), .val (.int c_430), .unset, .unset, .unset, .unset, .unset] [(.int (1 : Int32)), (.int (3 : Int32))])) _
        refine XS.icmpYes X430.here hx rfl (pc0 := 63) (pc' := 86) rfl (hb hby at_63) rfl (feq (by decide : ¬ ((3 : Int32) = (1 : Int32)))).2 (by decide) (by decide) ?_
        show Steps p.tables e below (T430.setTop (mkF m 86 #[.val (.int p0), .val (.int p1), .val (.int p2), .val (.int p3), .val (.int p4), .val (.int (1 : Int32)), .val (.int (3 : Int32)), .val (.int c_427), .val (.int c_428), .val (.int c_429), .val (.int c_430), .unset, .unset, .unset, .unset, .unset] [])) _
        refine XS.iload X430.here hx rfl (hb hby at_86) rfl ?_
        show Steps p.tables e below (T430.setTop (mkF m 88 #[.val (.int p0), .val (.int p1), .val (.int p2), .val (.int p3), .val (.int p4), .val (.int (1 : Int32)), .val (.int (3 : Int32)), .val (.int c_427), .val (.int c_428), .val (.int c_429), .val (.int c_430), .unset, .unset, .unset, .unset, .unset] [(.int (3 : Int32))])) _
        refine XS.iconst X430.here hx rfl (hb hby at_88) ?_
        show Steps p.tables e below (T430.setTop (mkF m 89 #[.val (.int p0), .val (.int p1), .val (.int p2), .val (.int p3), .val (.int p4), .val (.int (1 : Int32)), .val (.int (3 : Int32)), .val (.int c_427), .val (.int c_428), .val (.int c_429), .val (.int c_430), .unset, .unset, .unset, .unset, .unset] [(.int (2 : Int32)), (.int (3 : Int32))])) _
        refine XS.icmpYes X430.here hx rfl (pc0 := 89) (pc' := 117) rfl (hb hby at_89) rfl (feq (by decide : ¬ ((3 : Int32) = (2 : Int32)))).2 (by decide) (by decide) ?_
        show Steps p.tables e below (T430.setTop (mkF m 117 #[.val (.int p0), .val (.int p1), .val (.int p2), .val (.int p3), .val (.int p4), .val (.int (1 : Int32)), .val (.int (3 : Int32)), .val (.int c_427), .val (.int c_428), .val (.int c_429), .val (.int c_430), .unset, .unset, .unset, .unset, .unset] [])) _
        refine XS.iload X430.here hx rfl (hb hby at_117) rfl ?_
        show Steps p.tables e below (T430.setTop (mkF m 119 #[.val (.int p0), .val (.int p1), .val (.int p2), .val (.int p3), .val (.int p4), .val (.int (1 : Int32)), .val (.int (3 : Int32)), .val (.int c_427), .val (.int c_428), .val (.int c_429), .val (.int c_430), .unset, .unset, .unset, .unset, .unset] [(.int (3 : Int32))])) _
        refine XS.iconst X430.here hx rfl (hb hby at_119) ?_
        show Steps p.tables e below (T430.setTop (mkF m 120 #[.val (.int p0), .val (.int p1), .val (.int p2), .val (.int p3), .val (.int p4), .val (.int (1 : Int32)), .val (.int (3 : Int32)), .val (.int c_427), .val (.int c_428), .val (.int c_429), .val (.int c_430), .unset, .unset, .unset, .unset, .unset] [(.int (3 : Int32)), (.int (3 : Int32))])) _
        refine XS.icmpNo X430.here hx rfl (hb hby at_120) rfl (teq (by decide : (3 : Int32) = (3 : Int32))).2 ?_
        show Steps p.tables e below (T430.setTop (mkF m 123 #[.val (.int p0), .val (.int p1), .val (.int p2), .val (.int p3), .val (.int p4), .val (.int (1 : Int32)), .val (.int (3 : Int32)), .val (.int c_427), .val (.int c_428), .val (.int c_429), .val (.int c_430), .unset, .unset, .unset, .unset, .unset] [])) _
        refine st515 _ ?_
        show Steps p.tables e below (T515.setTop (mkF m 126 #[.val (.int p0), .val (.int p1), .val (.int p2), .val (.int p3), .val (.int p4), .val (.int (1 : Int32)), .val (.int (3 : Int32)), .val (.int c_427), .val (.int c_428), .val (.int c_429), .val (.int c_430), .unset, .unset, .unset, .unset, .unset] [(.ref b515)])) _
        refine XS.dup X515.here hx rfl (hb hby at_126) rfl rfl ?_
        show Steps p.tables e below (T515.setTop (mkF m 127 #[.val (.int p0), .val (.int p1), .val (.int p2), .val (.int p3), .val (.int p4), .val (.int (1 : Int32)), .val (.int (3 : Int32)), .val (.int c_427), .val (.int c_428), .val (.int c_429), .val (.int c_430), .unset, .unset, .unset, .unset, .unset] [(.ref b515), (.ref b515)])) _
        refine XS.iconst X515.here hx rfl (hb hby at_127) ?_
        show Steps p.tables e below (T515.setTop (mkF m 128 #[.val (.int p0), .val (.int p1), .val (.int p2), .val (.int p3), .val (.int p4), .val (.int (1 : Int32)), .val (.int (3 : Int32)), .val (.int c_427), .val (.int c_428), .val (.int c_429), .val (.int c_430), .unset, .unset, .unset, .unset, .unset] [(.int (3 : Int32)), (.ref b515), (.ref b515)])) _
        refine st519 _ ?_
        show Steps p.tables e below (T519.setTop (mkF m 130 #[.val (.int p0), .val (.int p1), .val (.int p2), .val (.int p3), .val (.int p4), .val (.int (1 : Int32)), .val (.int (3 : Int32)), .val (.int c_427), .val (.int c_428), .val (.int c_429), .val (.int c_430), .unset, .unset, .unset, .unset, .unset] [(.ref b519), (.ref b515), (.ref b515)])) _
        refine XS.dup X519.here hx rfl (hb hby at_130) rfl rfl ?_
        show Steps p.tables e below (T519.setTop (mkF m 131 #[.val (.int p0), .val (.int p1), .val (.int p2), .val (.int p3), .val (.int p4), .val (.int (1 : Int32)), .val (.int (3 : Int32)), .val (.int c_427), .val (.int c_428), .val (.int c_429), .val (.int c_430), .unset, .unset, .unset, .unset, .unset] [(.ref b519), (.ref b519), (.ref b515), (.ref b515)])) _
        refine XS.iconst X519.here hx rfl (hb hby at_131) ?_
        show Steps p.tables e below (T519.setTop (mkF m 132 #[.val (.int p0), .val (.int p1), .val (.int p2), .val (.int p3), .val (.int p4), .val (.int (1 : Int32)), .val (.int (3 : Int32)), .val (.int c_427), .val (.int c_428), .val (.int c_429), .val (.int c_430), .unset, .unset, .unset, .unset, .unset] [(.int (0 : Int32)), (.ref b519), (.ref b519), (.ref b515), (.ref b515)])) _
        refine XS.iload X519.here hx rfl (hb hby at_132) rfl ?_
        show Steps p.tables e below (T519.setTop (mkF m 134 #[.val (.int p0), .val (.int p1), .val (.int p2), .val (.int p3), .val (.int p4), .val (.int (1 : Int32)), .val (.int (3 : Int32)), .val (.int c_427), .val (.int c_428), .val (.int c_429), .val (.int c_430), .unset, .unset, .unset, .unset, .unset] [(.int c_427), (.int (0 : Int32)), (.ref b519), (.ref b519), (.ref b515), (.ref b515)])) _
        refine st524 _ ?_
        show Steps p.tables e below (T524.setTop (mkF m 135 #[.val (.int p0), .val (.int p1), .val (.int p2), .val (.int p3), .val (.int p4), .val (.int (1 : Int32)), .val (.int (3 : Int32)), .val (.int c_427), .val (.int c_428), .val (.int c_429), .val (.int c_430), .unset, .unset, .unset, .unset, .unset] [(.ref b519), (.ref b515), (.ref b515)])) _
        refine XS.dup X524.here hx rfl (hb hby at_135) rfl rfl ?_
        show Steps p.tables e below (T524.setTop (mkF m 136 #[.val (.int p0), .val (.int p1), .val (.int p2), .val (.int p3), .val (.int p4), .val (.int (1 : Int32)), .val (.int (3 : Int32)), .val (.int c_427), .val (.int c_428), .val (.int c_429), .val (.int c_430), .unset, .unset, .unset, .unset, .unset] [(.ref b519), (.ref b519), (.ref b515), (.ref b515)])) _
        refine XS.iconst X524.here hx rfl (hb hby at_136) ?_
        show Steps p.tables e below (T524.setTop (mkF m 137 #[.val (.int p0), .val (.int p1), .val (.int p2), .val (.int p3), .val (.int p4), .val (.int (1 : Int32)), .val (.int (3 : Int32)), .val (.int c_427), .val (.int c_428), .val (.int c_429), .val (.int c_430), .unset, .unset, .unset, .unset, .unset] [(.int (1 : Int32)), (.ref b519), (.ref b519), (.ref b515), (.ref b515)])) _
        refine XS.iload X524.here hx rfl (hb hby at_137) rfl ?_
        show Steps p.tables e below (T524.setTop (mkF m 139 #[.val (.int p0), .val (.int p1), .val (.int p2), .val (.int p3), .val (.int p4), .val (.int (1 : Int32)), .val (.int (3 : Int32)), .val (.int c_427), .val (.int c_428), .val (.int c_429), .val (.int c_430), .unset, .unset, .unset, .unset, .unset] [(.int c_428), (.int (1 : Int32)), (.ref b519), (.ref b519), (.ref b515), (.ref b515)])) _
        refine st528 _ ?_
        show Steps p.tables e below (T528.setTop (mkF m 140 #[.val (.int p0), .val (.int p1), .val (.int p2), .val (.int p3), .val (.int p4), .val (.int (1 : Int32)), .val (.int (3 : Int32)), .val (.int c_427), .val (.int c_428), .val (.int c_429), .val (.int c_430), .unset, .unset, .unset, .unset, .unset] [(.ref b519), (.ref b515), (.ref b515)])) _
        refine XS.dup X528.here hx rfl (hb hby at_140) rfl rfl ?_
        show Steps p.tables e below (T528.setTop (mkF m 141 #[.val (.int p0), .val (.int p1), .val (.int p2), .val (.int p3), .val (.int p4), .val (.int (1 : Int32)), .val (.int (3 : Int32)), .val (.int c_427), .val (.int c_428), .val (.int c_429), .val (.int c_430), .unset, .unset, .unset, .unset, .unset] [(.ref b519), (.ref b519), (.ref b515), (.ref b515)])) _
        refine XS.iconst X528.here hx rfl (hb hby at_141) ?_
        show Steps p.tables e below (T528.setTop (mkF m 142 #[.val (.int p0), .val (.int p1), .val (.int p2), .val (.int p3), .val (.int p4), .val (.int (1 : Int32)), .val (.int (3 : Int32)), .val (.int c_427), .val (.int c_428), .val (.int c_429), .val (.int c_430), .unset, .unset, .unset, .unset, .unset] [(.int (2 : Int32)), (.ref b519), (.ref b519), (.ref b515), (.ref b515)])) _
        refine XS.iload X528.here hx rfl (hb hby at_142) rfl ?_
        show Steps p.tables e below (T528.setTop (mkF m 144 #[.val (.int p0), .val (.int p1), .val (.int p2), .val (.int p3), .val (.int p4), .val (.int (1 : Int32)), .val (.int (3 : Int32)), .val (.int c_427), .val (.int c_428), .val (.int c_429), .val (.int c_430), .unset, .unset, .unset, .unset, .unset] [(.int c_429), (.int (2 : Int32)), (.ref b519), (.ref b519), (.ref b515), (.ref b515)])) _
        refine st532 _ ?_
        show Steps p.tables e below (T532.setTop (mkF m 145 #[.val (.int p0), .val (.int p1), .val (.int p2), .val (.int p3), .val (.int p4), .val (.int (1 : Int32)), .val (.int (3 : Int32)), .val (.int c_427), .val (.int c_428), .val (.int c_429), .val (.int c_430), .unset, .unset, .unset, .unset, .unset] [(.ref b519), (.ref b515), (.ref b515)])) _
        refine st535.trans ?_
        show Steps p.tables e below (T535.setTop (mkF m 148 #[.val (.int p0), .val (.int p1), .val (.int p2), .val (.int p3), .val (.int p4), .val (.int (1 : Int32)), .val (.int (3 : Int32)), .val (.int c_427), .val (.int c_428), .val (.int c_429), .val (.int c_430), .unset, .unset, .unset, .unset, .unset] [(.ref b515)])) _
        refine XS.astore X535.here hx rfl (hb hby at_148) rfl rfl (l' := #[.val (.int p0), .val (.int p1), .val (.int p2), .val (.int p3), .val (.int p4), .val (.int (1 : Int32)), .val (.int (3 : Int32)), .val (.int c_427), .val (.int c_428), .val (.int c_429), .val (.int c_430), .val (.ref b515), .unset, .unset, .unset, .unset]) rfl ?_
        show Steps p.tables e below (T535.setTop (mkF m 150 #[.val (.int p0), .val (.int p1), .val (.int p2), .val (.int p3), .val (.int p4), .val (.int (1 : Int32)), .val (.int (3 : Int32)), .val (.int c_427), .val (.int c_428), .val (.int c_429), .val (.int c_430), .val (.ref b515), .unset, .unset, .unset, .unset] [])) _
        refine XS.goto X535.here hx rfl (pc0 := 150) (pc' := 185) rfl (hb hby at_150) (by decide) (by decide) ?_
        show Steps p.tables e below (T535.setTop (mkF m 185 #[.val (.int p0), .val (.int p1), .val (.int p2), .val (.int p3), .val (.int p4), .val (.int (1 : Int32)), .val (.int (3 : Int32)), .val (.int c_427), .val (.int c_428), .val (.int c_429), .val (.int c_430), .val (.ref b515), .unset, .unset, .unset, .unset] [])) _
        refine XS.iload X535.here hx rfl (hb hby at_185) rfl ?_
        show Steps p.tables e below (T535.setTop (mkF m 187 #[.val (.int p0), .val (.int p1), .val (.int p2), .val (.int p3), .val (.int p4), .val (.int (1 : Int32)), .val (.int (3 : Int32)), .val (.int c_427), .val (.int c_428), .val (.int c_429), .val (.int c_430), .val (.ref b515), .unset, .unset, .unset, .unset] [(.int (1 : Int32))])) _
        refine XS.ifNo X535.here hx rfl (hb hby at_187) rfl ((if0 _ _).trans (feq (by decide : ¬ ((1 : Int32) = (0 : Int32)))).1) ?_
        show Steps p.tables e below (T535.setTop (mkF m 190 #[.val (.int p0), .val (.int p1), .val (.int p2), .val (.int p3), .val (.int p4), .val (.int (1 : Int32)), .val (.int (3 : Int32)), .val (.int c_427), .val (.int c_428), .val (.int c_429), .val (.int c_430), .val (.ref b515), .unset, .unset, .unset, .unset] [])) _
        refine st545 _ ?_
        show Steps p.tables e below (T545.setTop (mkF m 193 #[.val (.int p0), .val (.int p1), .val (.int p2), .val (.int p3), .val (.int p4), .val (.int (1 : Int32)), .val (.int (3 : Int32)), .val (.int c_427), .val (.int c_428), .val (.int c_429), .val (.int c_430), .val (.ref b515), .unset, .unset, .unset, .unset] [(.ref wF)])) _
        refine XS.goto X545.here hx rfl (pc0 := 193) (pc' := 199) rfl (hb hby at_193) (by decide) (by decide) ?_
        show Steps p.tables e below (T545.setTop (mkF m 199 #[.val (.int p0), .val (.int p1), .val (.int p2), .val (.int p3), .val (.int p4), .val (.int (1 : Int32)), .val (.int (3 : Int32)), .val (.int c_427), .val (.int c_428), .val (.int c_429), .val (.int c_430), .val (.ref b515), .unset, .unset, .unset, .unset] [(.ref wF)])) _
        refine XS.astore X545.here hx rfl (hb hby at_199) rfl rfl (l' := #[.val (.int p0), .val (.int p1), .val (.int p2), .val (.int p3), .val (.int p4), .val (.int (1 : Int32)), .val (.int (3 : Int32)), .val (.int c_427), .val (.int c_428), .val (.int c_429), .val (.int c_430), .val (.ref b515), .val (.ref wF), .unset, .unset, .unset]) rfl ?_
        show Steps p.tables e below (T545.setTop (mkF m 201 #[.val (.int p0), .val (.int p1), .val (.int p2), .val (.int p3), .val (.int p4), .val (.int (1 : Int32)), .val (.int (3 : Int32)), .val (.int c_427), .val (.int c_428), .val (.int c_429), .val (.int c_430), .val (.ref b515), .val (.ref wF), .unset, .unset, .unset] [])) _
        refine XS.iload X545.here hx rfl (hb hby at_201) rfl ?_
        show Steps p.tables e below (T545.setTop (mkF m 203 #[.val (.int p0), .val (.int p1), .val (.int p2), .val (.int p3), .val (.int p4), .val (.int (1 : Int32)), .val (.int (3 : Int32)), .val (.int c_427), .val (.int c_428), .val (.int c_429), .val (.int c_430), .val (.ref b515), .val (.ref wF), .unset, .unset, .unset] [(.int (3 : Int32))])) _
        refine XS.iconst X545.here hx rfl (hb hby at_203) ?_
        show Steps p.tables e below (T545.setTop (mkF m 204 #[.val (.int p0), .val (.int p1), .val (.int p2), .val (.int p3), .val (.int p4), .val (.int (1 : Int32)), .val (.int (3 : Int32)), .val (.int c_427), .val (.int c_428), .val (.int c_429), .val (.int c_430), .val (.ref b515), .val (.ref wF), .unset, .unset, .unset] [(.int (3 : Int32)), (.int (3 : Int32))])) _
        refine XS.icmpNo X545.here hx rfl (hb hby at_204) rfl (teq (by decide : (3 : Int32) = (3 : Int32))).2 ?_
        show Steps p.tables e below (T545.setTop (mkF m 207 #[.val (.int p0), .val (.int p1), .val (.int p2), .val (.int p3), .val (.int p4), .val (.int (1 : Int32)), .val (.int (3 : Int32)), .val (.int c_427), .val (.int c_428), .val (.int c_429), .val (.int c_430), .val (.ref b515), .val (.ref wF), .unset, .unset, .unset] [])) _
        refine XS.iload X545.here hx rfl (hb hby at_207) rfl ?_
        show Steps p.tables e below (T545.setTop (mkF m 209 #[.val (.int p0), .val (.int p1), .val (.int p2), .val (.int p3), .val (.int p4), .val (.int (1 : Int32)), .val (.int (3 : Int32)), .val (.int c_427), .val (.int c_428), .val (.int c_429), .val (.int c_430), .val (.ref b515), .val (.ref wF), .unset, .unset, .unset] [(.int c_427)])) _
        refine XS.bipush X545.here hx rfl (hb hby at_209) ?_
        exact k
      by_cases hc547 : c_427 = (71 : Int32)
      · have pre548 : ∀ t, Steps p.tables e below (T545.setTop (mkF m 218 #[.val (.int p0), .val (.int p1), .val (.int p2), .val (.int p3), .val (.int p4), .val (.int (1 : Int32)), .val (.int (3 : Int32)), .val (.int c_427), .val (.int c_428), .val (.int c_429), .val (.int c_430), .val (.ref b515), .val (.ref wF), .unset, .unset, .unset] [(.int (69 : Int32)), (.int c_428)])) t → Steps p.tables e below (s₁.setTop (entryFrame m #[(.int p0), (.int p1), (.int p2), (.int p3), (.int p4)] maxLocals)) t := fun t k => by
          refine pre546 _ ?_
          show Steps p.tables e below (T545.setTop (mkF m 211 #[.val (.int p0), .val (.int p1), .val (.int p2), .val (.int p3), .val (.int p4), .val (.int (1 : Int32)), .val (.int (3 : Int32)), .val (.int c_427), .val (.int c_428), .val (.int c_429), .val (.int c_430), .val (.ref b515), .val (.ref wF), .unset, .unset, .unset] [(.int (71 : Int32)), (.int c_427)])) _
          refine XS.icmpNo X545.here hx rfl (hb hby at_211) rfl (teq (hc547 : c_427 = (71 : Int32))).2 ?_
          show Steps p.tables e below (T545.setTop (mkF m 214 #[.val (.int p0), .val (.int p1), .val (.int p2), .val (.int p3), .val (.int p4), .val (.int (1 : Int32)), .val (.int (3 : Int32)), .val (.int c_427), .val (.int c_428), .val (.int c_429), .val (.int c_430), .val (.ref b515), .val (.ref wF), .unset, .unset, .unset] [])) _
          refine XS.iload X545.here hx rfl (hb hby at_214) rfl ?_
          show Steps p.tables e below (T545.setTop (mkF m 216 #[.val (.int p0), .val (.int p1), .val (.int p2), .val (.int p3), .val (.int p4), .val (.int (1 : Int32)), .val (.int (3 : Int32)), .val (.int c_427), .val (.int c_428), .val (.int c_429), .val (.int c_430), .val (.ref b515), .val (.ref wF), .unset, .unset, .unset] [(.int c_428)])) _
          refine XS.bipush X545.here hx rfl (hb hby at_216) ?_
          exact k
        by_cases hc549 : c_428 = (69 : Int32)
        · have pre550 : ∀ t, Steps p.tables e below (T545.setTop (mkF m 225 #[.val (.int p0), .val (.int p1), .val (.int p2), .val (.int p3), .val (.int p4), .val (.int (1 : Int32)), .val (.int (3 : Int32)), .val (.int c_427), .val (.int c_428), .val (.int c_429), .val (.int c_430), .val (.ref b515), .val (.ref wF), .unset, .unset, .unset] [(.int (84 : Int32)), (.int c_429)])) t → Steps p.tables e below (s₁.setTop (entryFrame m #[(.int p0), (.int p1), (.int p2), (.int p3), (.int p4)] maxLocals)) t := fun t k => by
            refine pre548 _ ?_
            show Steps p.tables e below (T545.setTop (mkF m 218 #[.val (.int p0), .val (.int p1), .val (.int p2), .val (.int p3), .val (.int p4), .val (.int (1 : Int32)), .val (.int (3 : Int32)), .val (.int c_427), .val (.int c_428), .val (.int c_429), .val (.int c_430), .val (.ref b515), .val (.ref wF), .unset, .unset, .unset] [(.int (69 : Int32)), (.int c_428)])) _
            refine XS.icmpNo X545.here hx rfl (hb hby at_218) rfl (teq (hc549 : c_428 = (69 : Int32))).2 ?_
            show Steps p.tables e below (T545.setTop (mkF m 221 #[.val (.int p0), .val (.int p1), .val (.int p2), .val (.int p3), .val (.int p4), .val (.int (1 : Int32)), .val (.int (3 : Int32)), .val (.int c_427), .val (.int c_428), .val (.int c_429), .val (.int c_430), .val (.ref b515), .val (.ref wF), .unset, .unset, .unset] [])) _
            refine XS.iload X545.here hx rfl (hb hby at_221) rfl ?_
            show Steps p.tables e below (T545.setTop (mkF m 223 #[.val (.int p0), .val (.int p1), .val (.int p2), .val (.int p3), .val (.int p4), .val (.int (1 : Int32)), .val (.int (3 : Int32)), .val (.int c_427), .val (.int c_428), .val (.int c_429), .val (.int c_430), .val (.ref b515), .val (.ref wF), .unset, .unset, .unset] [(.int c_429)])) _
            refine XS.bipush X545.here hx rfl (hb hby at_223) ?_
            exact k
          by_cases hc551 : c_429 = (84 : Int32)
          · have Xo552 : Ext Z.heap T535.heap := own_extT X00 (own_ext KC541)
            have Fc553 := (own_staK Fc539 K535 (allS ⟨_, Fc536⟩ all0))
            have z555 := congrArg Array.size e545
            have Fc556 := ((((((H2.ext E515).ext E519).wr W524).wr W528).wr W532).keep K535)
            obtain ⟨cq554, kq554, qa554, qb554, qc554⟩ := isOf hZ e545 Fc556
            obtain ⟨_, _, ⟨T554, L554, k554, n554⟩, -, Y554, hY554, gY554, ⟨Lc554, hQ554, l554, y554, z554⟩, st554⟩ := X545.virtualBackS hx (y := (⟨"com/example/task_relay/taskrelay/Scope", "allows", "(Ljava/lang/String;)Z"⟩ : MethodName)) (z := (⟨"com/example/task_relay/taskrelay/Scope", "allows", "(Ljava/lang/String;)Z"⟩ : MethodName)) hown (mvT hZ (hw _ (List.mem_of_getElem? (i := 15) rfl))) (mvT hZ (hw _ (List.mem_of_getElem? (i := 16) rfl))) (notFace_of_selects (args := #[]) (mvT hZ (hw _ (List.mem_of_getElem? (i := 18) rfl)))) (mvT hZ (hw _ (List.mem_of_getElem? (i := 18) rfl))) (mvT hZ (hw _ (List.mem_of_getElem? (i := 17) rfl))) (by decide) (backOfI (W := 0) (rmaf1 l Z a0 hw [] b515 wF G1 T535.heap h0.size (by omega) Fc544 Fc553 (hG1 : ¬ (G1 = (0 : Int32))) (hh58 : Jvm.Lit.constHeld Z "com/example/task_relay/taskrelay/Scope" 58) (hh60 : Jvm.Lit.constHeld Z "com/example/task_relay/taskrelay/Scope" 60) (Xo552 : Ext Z.heap T535.heap) (hcw : Jvm.Lit.compactW.before a0 Z = true)) hZ (hw _ (List.mem_of_getElem? (i := 19) rfl)) (hw _ (List.mem_of_getElem? (i := 13) rfl)) (by decide) (by decide)) qa554 qc554 (g := (mkF m 302 #[.val (.int p0), .val (.int p1), .val (.int p2), .val (.int p3), .val (.int p4), .val (.int (1 : Int32)), .val (.int (3 : Int32)), .val (.int c_427), .val (.int c_428), .val (.int c_429), .val (.int c_430), .val (.ref b515), .val (.ref wF), .val (.int (1 : Int32)), .val (.int (0 : Int32)), .val (.int (1 : Int32))] [(.ref b515), (.ref wF)])) rfl (by rw [hml]; rfl) (Steps.refl _) (argsL := [(.ref b515)]) (rest := []) (lenOf pd_2 rfl) rfl (by show 2 * 0 + _ ≤ _; exact Nat.le_of_eq rfl) (hb hby at_302) (fun _ Hw => ⟨rfl, e545, (by decide : 3 + 0 ≤ _), (by decide : 10 + 0 ≤ _), own_IBw hI Hw⟩)
            dsimp only [Pt.U, Pt.locs, Pt.cells, Pt.slots] at Y554 hY554 gY554 l554 y554 z554 st554 hQ554
            subst l554 y554 z554
            obtain ⟨X554, hS554, hZ554, hw554⟩ := rebS (s := s) (vm0 := s.vm) hS0 (by omega : h0.size ≤ T545.heap.size) Y554 hY554 gY554 hZ hown
            obtain ⟨rfl, N554q, K554⟩ := hQ554
            have N554 := Fr.app N535 N554q
            have z557 := K554.1
            have KC558 : Keep h0 T554.heap [] := KC541.trans K554 all0
            obtain ⟨fs, hr, hrun, hended, rE1, rE2, rE3, rE4⟩ := leaveW (s := s) (vm₁ := T554.vm) X554 hS554 (by omega : T554.heap.size ≤ T554.heap.size) (v := some (.int (1 : Int32))) (fun h => by rw [Bd.returns] at h; cases h)
            refine ⟨_, _, pre550 _ ?_, hrun, hended, _, _, rfl, ?_, rE1, rE2, rE3, rE4.mono (by decide) (by decide)⟩
            · show Steps p.tables e below (T545.setTop (mkF m 225 #[.val (.int p0), .val (.int p1), .val (.int p2), .val (.int p3), .val (.int p4), .val (.int (1 : Int32)), .val (.int (3 : Int32)), .val (.int c_427), .val (.int c_428), .val (.int c_429), .val (.int c_430), .val (.ref b515), .val (.ref wF), .unset, .unset, .unset] [(.int (84 : Int32)), (.int c_429)])) _
              refine XS.icmpNo X545.here hx rfl (hb hby at_225) rfl (teq (hc551 : c_429 = (84 : Int32))).2 ?_
              show Steps p.tables e below (T545.setTop (mkF m 228 #[.val (.int p0), .val (.int p1), .val (.int p2), .val (.int p3), .val (.int p4), .val (.int (1 : Int32)), .val (.int (3 : Int32)), .val (.int c_427), .val (.int c_428), .val (.int c_429), .val (.int c_430), .val (.ref b515), .val (.ref wF), .unset, .unset, .unset] [])) _
              refine XS.iconst X545.here hx rfl (hb hby at_228) ?_
              show Steps p.tables e below (T545.setTop (mkF m 229 #[.val (.int p0), .val (.int p1), .val (.int p2), .val (.int p3), .val (.int p4), .val (.int (1 : Int32)), .val (.int (3 : Int32)), .val (.int c_427), .val (.int c_428), .val (.int c_429), .val (.int c_430), .val (.ref b515), .val (.ref wF), .unset, .unset, .unset] [(.int (1 : Int32))])) _
              refine XS.goto X545.here hx rfl (pc0 := 229) (pc' := 233) rfl (hb hby at_229) (by decide) (by decide) ?_
              show Steps p.tables e below (T545.setTop (mkF m 233 #[.val (.int p0), .val (.int p1), .val (.int p2), .val (.int p3), .val (.int p4), .val (.int (1 : Int32)), .val (.int (3 : Int32)), .val (.int c_427), .val (.int c_428), .val (.int c_429), .val (.int c_430), .val (.ref b515), .val (.ref wF), .unset, .unset, .unset] [(.int (1 : Int32))])) _
              refine XS.istore X545.here hx rfl (hb hby at_233) rfl (l' := #[.val (.int p0), .val (.int p1), .val (.int p2), .val (.int p3), .val (.int p4), .val (.int (1 : Int32)), .val (.int (3 : Int32)), .val (.int c_427), .val (.int c_428), .val (.int c_429), .val (.int c_430), .val (.ref b515), .val (.ref wF), .val (.int (1 : Int32)), .unset, .unset]) rfl ?_
              show Steps p.tables e below (T545.setTop (mkF m 235 #[.val (.int p0), .val (.int p1), .val (.int p2), .val (.int p3), .val (.int p4), .val (.int (1 : Int32)), .val (.int (3 : Int32)), .val (.int c_427), .val (.int c_428), .val (.int c_429), .val (.int c_430), .val (.ref b515), .val (.ref wF), .val (.int (1 : Int32)), .unset, .unset] [])) _
              refine XS.iload X545.here hx rfl (hb hby at_235) rfl ?_
              show Steps p.tables e below (T545.setTop (mkF m 237 #[.val (.int p0), .val (.int p1), .val (.int p2), .val (.int p3), .val (.int p4), .val (.int (1 : Int32)), .val (.int (3 : Int32)), .val (.int c_427), .val (.int c_428), .val (.int c_429), .val (.int c_430), .val (.ref b515), .val (.ref wF), .val (.int (1 : Int32)), .unset, .unset] [(.int (3 : Int32))])) _
              refine XS.iconst X545.here hx rfl (hb hby at_237) ?_
              show Steps p.tables e below (T545.setTop (mkF m 238 #[.val (.int p0), .val (.int p1), .val (.int p2), .val (.int p3), .val (.int p4), .val (.int (1 : Int32)), .val (.int (3 : Int32)), .val (.int c_427), .val (.int c_428), .val (.int c_429), .val (.int c_430), .val (.ref b515), .val (.ref wF), .val (.int (1 : Int32)), .unset, .unset] [(.int (4 : Int32)), (.int (3 : Int32))])) _
              refine XS.icmpYes X545.here hx rfl (pc0 := 238) (pc' := 273) rfl (hb hby at_238) rfl (feq (by decide : ¬ ((3 : Int32) = (4 : Int32)))).2 (by decide) (by decide) ?_
              show Steps p.tables e below (T545.setTop (mkF m 273 #[.val (.int p0), .val (.int p1), .val (.int p2), .val (.int p3), .val (.int p4), .val (.int (1 : Int32)), .val (.int (3 : Int32)), .val (.int c_427), .val (.int c_428), .val (.int c_429), .val (.int c_430), .val (.ref b515), .val (.ref wF), .val (.int (1 : Int32)), .unset, .unset] [])) _
              refine XS.iconst X545.here hx rfl (hb hby at_273) ?_
              show Steps p.tables e below (T545.setTop (mkF m 274 #[.val (.int p0), .val (.int p1), .val (.int p2), .val (.int p3), .val (.int p4), .val (.int (1 : Int32)), .val (.int (3 : Int32)), .val (.int c_427), .val (.int c_428), .val (.int c_429), .val (.int c_430), .val (.ref b515), .val (.ref wF), .val (.int (1 : Int32)), .unset, .unset] [(.int (0 : Int32))])) _
              refine XS.istore X545.here hx rfl (hb hby at_274) rfl (l' := #[.val (.int p0), .val (.int p1), .val (.int p2), .val (.int p3), .val (.int p4), .val (.int (1 : Int32)), .val (.int (3 : Int32)), .val (.int c_427), .val (.int c_428), .val (.int c_429), .val (.int c_430), .val (.ref b515), .val (.ref wF), .val (.int (1 : Int32)), .val (.int (0 : Int32)), .unset]) rfl ?_
              show Steps p.tables e below (T545.setTop (mkF m 276 #[.val (.int p0), .val (.int p1), .val (.int p2), .val (.int p3), .val (.int p4), .val (.int (1 : Int32)), .val (.int (3 : Int32)), .val (.int c_427), .val (.int c_428), .val (.int c_429), .val (.int c_430), .val (.ref b515), .val (.ref wF), .val (.int (1 : Int32)), .val (.int (0 : Int32)), .unset] [])) _
              refine XS.iload X545.here hx rfl (hb hby at_276) rfl ?_
              show Steps p.tables e below (T545.setTop (mkF m 278 #[.val (.int p0), .val (.int p1), .val (.int p2), .val (.int p3), .val (.int p4), .val (.int (1 : Int32)), .val (.int (3 : Int32)), .val (.int c_427), .val (.int c_428), .val (.int c_429), .val (.int c_430), .val (.ref b515), .val (.ref wF), .val (.int (1 : Int32)), .val (.int (0 : Int32)), .unset] [(.int (1 : Int32))])) _
              refine XS.ifYes X545.here hx rfl (pc0 := 278) (pc' := 291) rfl (hb hby at_278) rfl ((if0 _ _).trans (feq (by decide : ¬ ((1 : Int32) = (0 : Int32)))).2) (by decide) (by decide) ?_
              show Steps p.tables e below (T545.setTop (mkF m 291 #[.val (.int p0), .val (.int p1), .val (.int p2), .val (.int p3), .val (.int p4), .val (.int (1 : Int32)), .val (.int (3 : Int32)), .val (.int c_427), .val (.int c_428), .val (.int c_429), .val (.int c_430), .val (.ref b515), .val (.ref wF), .val (.int (1 : Int32)), .val (.int (0 : Int32)), .unset] [])) _
              refine XS.iconst X545.here hx rfl (hb hby at_291) ?_
              show Steps p.tables e below (T545.setTop (mkF m 292 #[.val (.int p0), .val (.int p1), .val (.int p2), .val (.int p3), .val (.int p4), .val (.int (1 : Int32)), .val (.int (3 : Int32)), .val (.int c_427), .val (.int c_428), .val (.int c_429), .val (.int c_430), .val (.ref b515), .val (.ref wF), .val (.int (1 : Int32)), .val (.int (0 : Int32)), .unset] [(.int (1 : Int32))])) _
              refine XS.goto X545.here hx rfl (pc0 := 292) (pc' := 296) rfl (hb hby at_292) (by decide) (by decide) ?_
              show Steps p.tables e below (T545.setTop (mkF m 296 #[.val (.int p0), .val (.int p1), .val (.int p2), .val (.int p3), .val (.int p4), .val (.int (1 : Int32)), .val (.int (3 : Int32)), .val (.int c_427), .val (.int c_428), .val (.int c_429), .val (.int c_430), .val (.ref b515), .val (.ref wF), .val (.int (1 : Int32)), .val (.int (0 : Int32)), .unset] [(.int (1 : Int32))])) _
              refine XS.istore X545.here hx rfl (hb hby at_296) rfl (l' := #[.val (.int p0), .val (.int p1), .val (.int p2), .val (.int p3), .val (.int p4), .val (.int (1 : Int32)), .val (.int (3 : Int32)), .val (.int c_427), .val (.int c_428), .val (.int c_429), .val (.int c_430), .val (.ref b515), .val (.ref wF), .val (.int (1 : Int32)), .val (.int (0 : Int32)), .val (.int (1 : Int32))]) rfl ?_
              show Steps p.tables e below (T545.setTop (mkF m 298 #[.val (.int p0), .val (.int p1), .val (.int p2), .val (.int p3), .val (.int p4), .val (.int (1 : Int32)), .val (.int (3 : Int32)), .val (.int c_427), .val (.int c_428), .val (.int c_429), .val (.int c_430), .val (.ref b515), .val (.ref wF), .val (.int (1 : Int32)), .val (.int (0 : Int32)), .val (.int (1 : Int32))] [])) _
              refine XS.aload X545.here hx rfl (hb hby at_298) rfl rfl ?_
              show Steps p.tables e below (T545.setTop (mkF m 300 #[.val (.int p0), .val (.int p1), .val (.int p2), .val (.int p3), .val (.int p4), .val (.int (1 : Int32)), .val (.int (3 : Int32)), .val (.int c_427), .val (.int c_428), .val (.int c_429), .val (.int c_430), .val (.ref b515), .val (.ref wF), .val (.int (1 : Int32)), .val (.int (0 : Int32)), .val (.int (1 : Int32))] [(.ref wF)])) _
              refine XS.aload X545.here hx rfl (hb hby at_300) rfl rfl ?_
              show Steps p.tables e below (T545.setTop (mkF m 302 #[.val (.int p0), .val (.int p1), .val (.int p2), .val (.int p3), .val (.int p4), .val (.int (1 : Int32)), .val (.int (3 : Int32)), .val (.int c_427), .val (.int c_428), .val (.int c_429), .val (.int c_430), .val (.ref b515), .val (.ref wF), .val (.int (1 : Int32)), .val (.int (0 : Int32)), .val (.int (1 : Int32))] [(.ref b515), (.ref wF)])) _
              refine st554.trans ?_
              show Steps p.tables e below (T554.setTop (mkF m 305 #[.val (.int p0), .val (.int p1), .val (.int p2), .val (.int p3), .val (.int p4), .val (.int (1 : Int32)), .val (.int (3 : Int32)), .val (.int c_427), .val (.int c_428), .val (.int c_429), .val (.int c_430), .val (.ref b515), .val (.ref wF), .val (.int (1 : Int32)), .val (.int (0 : Int32)), .val (.int (1 : Int32))] [(.int (1 : Int32))])) _
              refine XS.iload X554.here hx rfl (hb hby at_305) rfl ?_
              show Steps p.tables e below (T554.setTop (mkF m 307 #[.val (.int p0), .val (.int p1), .val (.int p2), .val (.int p3), .val (.int p4), .val (.int (1 : Int32)), .val (.int (3 : Int32)), .val (.int c_427), .val (.int c_428), .val (.int c_429), .val (.int c_430), .val (.ref b515), .val (.ref wF), .val (.int (1 : Int32)), .val (.int (0 : Int32)), .val (.int (1 : Int32))] [(.int (1 : Int32)), (.int (1 : Int32))])) _
              refine XS.icmpNo X554.here hx rfl (hb hby at_307) rfl (teq (by decide : (1 : Int32) = (1 : Int32))).2 ?_
              show Steps p.tables e below (T554.setTop (mkF m 310 #[.val (.int p0), .val (.int p1), .val (.int p2), .val (.int p3), .val (.int p4), .val (.int (1 : Int32)), .val (.int (3 : Int32)), .val (.int c_427), .val (.int c_428), .val (.int c_429), .val (.int c_430), .val (.ref b515), .val (.ref wF), .val (.int (1 : Int32)), .val (.int (0 : Int32)), .val (.int (1 : Int32))] [])) _
              refine XS.iconst X554.here hx rfl (hb hby at_310) ?_
              show Steps p.tables e below (T554.setTop (mkF m 311 #[.val (.int p0), .val (.int p1), .val (.int p2), .val (.int p3), .val (.int p4), .val (.int (1 : Int32)), .val (.int (3 : Int32)), .val (.int c_427), .val (.int c_428), .val (.int c_429), .val (.int c_430), .val (.ref b515), .val (.ref wF), .val (.int (1 : Int32)), .val (.int (0 : Int32)), .val (.int (1 : Int32))] [(.int (1 : Int32))])) _
              refine XS.goto X554.here hx rfl (pc0 := 311) (pc' := 315) rfl (hb hby at_311) (by decide) (by decide) ?_
              show Steps p.tables e below (T554.setTop (mkF m 315 #[.val (.int p0), .val (.int p1), .val (.int p2), .val (.int p3), .val (.int p4), .val (.int (1 : Int32)), .val (.int (3 : Int32)), .val (.int c_427), .val (.int c_428), .val (.int c_429), .val (.int c_430), .val (.ref b515), .val (.ref wF), .val (.int (1 : Int32)), .val (.int (0 : Int32)), .val (.int (1 : Int32))] [(.int (1 : Int32))])) _
              exact retN X554 hx (t := .boolean) Bd.returns (by simp) (hb hby at_315) hr
            · show Qrm0 Z p0 p1 p2 p3 p4 wF wR G1 h0 n0 _ T554.heap _
              exact ⟨rfl, (fun y hy => Nat.le_trans Z0 (N554 y hy)), KC558⟩
          · have Xo559 : Ext Z.heap T535.heap := own_extT X00 (own_ext KC541)
            have Fc560 := (own_staK Fc539 K535 (allS ⟨_, Fc536⟩ all0))
            have z562 := congrArg Array.size e545
            have Fc563 := ((((((H2.ext E515).ext E519).wr W524).wr W528).wr W532).keep K535)
            obtain ⟨cq561, kq561, qa561, qb561, qc561⟩ := isOf hZ e545 Fc563
            obtain ⟨_, _, ⟨T561, L561, k561, n561⟩, -, Y561, hY561, gY561, ⟨Lc561, hQ561, l561, y561, z561⟩, st561⟩ := X545.virtualBackS hx (y := (⟨"com/example/task_relay/taskrelay/Scope", "allows", "(Ljava/lang/String;)Z"⟩ : MethodName)) (z := (⟨"com/example/task_relay/taskrelay/Scope", "allows", "(Ljava/lang/String;)Z"⟩ : MethodName)) hown (mvT hZ (hw _ (List.mem_of_getElem? (i := 15) rfl))) (mvT hZ (hw _ (List.mem_of_getElem? (i := 16) rfl))) (notFace_of_selects (args := #[]) (mvT hZ (hw _ (List.mem_of_getElem? (i := 18) rfl)))) (mvT hZ (hw _ (List.mem_of_getElem? (i := 18) rfl))) (mvT hZ (hw _ (List.mem_of_getElem? (i := 17) rfl))) (by decide) (backOfI (W := 0) (rmaf1 l Z a0 hw [] b515 wF G1 T535.heap h0.size (by omega) Fc544 Fc560 (hG1 : ¬ (G1 = (0 : Int32))) (hh58 : Jvm.Lit.constHeld Z "com/example/task_relay/taskrelay/Scope" 58) (hh60 : Jvm.Lit.constHeld Z "com/example/task_relay/taskrelay/Scope" 60) (Xo559 : Ext Z.heap T535.heap) (hcw : Jvm.Lit.compactW.before a0 Z = true)) hZ (hw _ (List.mem_of_getElem? (i := 19) rfl)) (hw _ (List.mem_of_getElem? (i := 13) rfl)) (by decide) (by decide)) qa561 qc561 (g := (mkF m 302 #[.val (.int p0), .val (.int p1), .val (.int p2), .val (.int p3), .val (.int p4), .val (.int (1 : Int32)), .val (.int (3 : Int32)), .val (.int c_427), .val (.int c_428), .val (.int c_429), .val (.int c_430), .val (.ref b515), .val (.ref wF), .val (.int (0 : Int32)), .val (.int (0 : Int32)), .val (.int (1 : Int32))] [(.ref b515), (.ref wF)])) rfl (by rw [hml]; rfl) (Steps.refl _) (argsL := [(.ref b515)]) (rest := []) (lenOf pd_2 rfl) rfl (by show 2 * 0 + _ ≤ _; exact Nat.le_of_eq rfl) (hb hby at_302) (fun _ Hw => ⟨rfl, e545, (by decide : 3 + 0 ≤ _), (by decide : 10 + 0 ≤ _), own_IBw hI Hw⟩)
            dsimp only [Pt.U, Pt.locs, Pt.cells, Pt.slots] at Y561 hY561 gY561 l561 y561 z561 st561 hQ561
            subst l561 y561 z561
            obtain ⟨X561, hS561, hZ561, hw561⟩ := rebS (s := s) (vm0 := s.vm) hS0 (by omega : h0.size ≤ T545.heap.size) Y561 hY561 gY561 hZ hown
            obtain ⟨rfl, N561q, K561⟩ := hQ561
            have N561 := Fr.app N535 N561q
            have z564 := K561.1
            have KC565 : Keep h0 T561.heap [] := KC541.trans K561 all0
            obtain ⟨fs, hr, hrun, hended, rE1, rE2, rE3, rE4⟩ := leaveW (s := s) (vm₁ := T561.vm) X561 hS561 (by omega : T561.heap.size ≤ T561.heap.size) (v := some (.int (1 : Int32))) (fun h => by rw [Bd.returns] at h; cases h)
            refine ⟨_, _, pre550 _ ?_, hrun, hended, _, _, rfl, ?_, rE1, rE2, rE3, rE4.mono (by decide) (by decide)⟩
            · show Steps p.tables e below (T545.setTop (mkF m 225 #[.val (.int p0), .val (.int p1), .val (.int p2), .val (.int p3), .val (.int p4), .val (.int (1 : Int32)), .val (.int (3 : Int32)), .val (.int c_427), .val (.int c_428), .val (.int c_429), .val (.int c_430), .val (.ref b515), .val (.ref wF), .unset, .unset, .unset] [(.int (84 : Int32)), (.int c_429)])) _
              refine XS.icmpYes X545.here hx rfl (pc0 := 225) (pc' := 232) rfl (hb hby at_225) rfl (feq (hc551 : ¬ (c_429 = (84 : Int32)))).2 (by decide) (by decide) ?_
              show Steps p.tables e below (T545.setTop (mkF m 232 #[.val (.int p0), .val (.int p1), .val (.int p2), .val (.int p3), .val (.int p4), .val (.int (1 : Int32)), .val (.int (3 : Int32)), .val (.int c_427), .val (.int c_428), .val (.int c_429), .val (.int c_430), .val (.ref b515), .val (.ref wF), .unset, .unset, .unset] [])) _
              refine XS.iconst X545.here hx rfl (hb hby at_232) ?_
              show Steps p.tables e below (T545.setTop (mkF m 233 #[.val (.int p0), .val (.int p1), .val (.int p2), .val (.int p3), .val (.int p4), .val (.int (1 : Int32)), .val (.int (3 : Int32)), .val (.int c_427), .val (.int c_428), .val (.int c_429), .val (.int c_430), .val (.ref b515), .val (.ref wF), .unset, .unset, .unset] [(.int (0 : Int32))])) _
              refine XS.istore X545.here hx rfl (hb hby at_233) rfl (l' := #[.val (.int p0), .val (.int p1), .val (.int p2), .val (.int p3), .val (.int p4), .val (.int (1 : Int32)), .val (.int (3 : Int32)), .val (.int c_427), .val (.int c_428), .val (.int c_429), .val (.int c_430), .val (.ref b515), .val (.ref wF), .val (.int (0 : Int32)), .unset, .unset]) rfl ?_
              show Steps p.tables e below (T545.setTop (mkF m 235 #[.val (.int p0), .val (.int p1), .val (.int p2), .val (.int p3), .val (.int p4), .val (.int (1 : Int32)), .val (.int (3 : Int32)), .val (.int c_427), .val (.int c_428), .val (.int c_429), .val (.int c_430), .val (.ref b515), .val (.ref wF), .val (.int (0 : Int32)), .unset, .unset] [])) _
              refine XS.iload X545.here hx rfl (hb hby at_235) rfl ?_
              show Steps p.tables e below (T545.setTop (mkF m 237 #[.val (.int p0), .val (.int p1), .val (.int p2), .val (.int p3), .val (.int p4), .val (.int (1 : Int32)), .val (.int (3 : Int32)), .val (.int c_427), .val (.int c_428), .val (.int c_429), .val (.int c_430), .val (.ref b515), .val (.ref wF), .val (.int (0 : Int32)), .unset, .unset] [(.int (3 : Int32))])) _
              refine XS.iconst X545.here hx rfl (hb hby at_237) ?_
              show Steps p.tables e below (T545.setTop (mkF m 238 #[.val (.int p0), .val (.int p1), .val (.int p2), .val (.int p3), .val (.int p4), .val (.int (1 : Int32)), .val (.int (3 : Int32)), .val (.int c_427), .val (.int c_428), .val (.int c_429), .val (.int c_430), .val (.ref b515), .val (.ref wF), .val (.int (0 : Int32)), .unset, .unset] [(.int (4 : Int32)), (.int (3 : Int32))])) _
              refine XS.icmpYes X545.here hx rfl (pc0 := 238) (pc' := 273) rfl (hb hby at_238) rfl (feq (by decide : ¬ ((3 : Int32) = (4 : Int32)))).2 (by decide) (by decide) ?_
              show Steps p.tables e below (T545.setTop (mkF m 273 #[.val (.int p0), .val (.int p1), .val (.int p2), .val (.int p3), .val (.int p4), .val (.int (1 : Int32)), .val (.int (3 : Int32)), .val (.int c_427), .val (.int c_428), .val (.int c_429), .val (.int c_430), .val (.ref b515), .val (.ref wF), .val (.int (0 : Int32)), .unset, .unset] [])) _
              refine XS.iconst X545.here hx rfl (hb hby at_273) ?_
              show Steps p.tables e below (T545.setTop (mkF m 274 #[.val (.int p0), .val (.int p1), .val (.int p2), .val (.int p3), .val (.int p4), .val (.int (1 : Int32)), .val (.int (3 : Int32)), .val (.int c_427), .val (.int c_428), .val (.int c_429), .val (.int c_430), .val (.ref b515), .val (.ref wF), .val (.int (0 : Int32)), .unset, .unset] [(.int (0 : Int32))])) _
              refine XS.istore X545.here hx rfl (hb hby at_274) rfl (l' := #[.val (.int p0), .val (.int p1), .val (.int p2), .val (.int p3), .val (.int p4), .val (.int (1 : Int32)), .val (.int (3 : Int32)), .val (.int c_427), .val (.int c_428), .val (.int c_429), .val (.int c_430), .val (.ref b515), .val (.ref wF), .val (.int (0 : Int32)), .val (.int (0 : Int32)), .unset]) rfl ?_
              show Steps p.tables e below (T545.setTop (mkF m 276 #[.val (.int p0), .val (.int p1), .val (.int p2), .val (.int p3), .val (.int p4), .val (.int (1 : Int32)), .val (.int (3 : Int32)), .val (.int c_427), .val (.int c_428), .val (.int c_429), .val (.int c_430), .val (.ref b515), .val (.ref wF), .val (.int (0 : Int32)), .val (.int (0 : Int32)), .unset] [])) _
              refine XS.iload X545.here hx rfl (hb hby at_276) rfl ?_
              show Steps p.tables e below (T545.setTop (mkF m 278 #[.val (.int p0), .val (.int p1), .val (.int p2), .val (.int p3), .val (.int p4), .val (.int (1 : Int32)), .val (.int (3 : Int32)), .val (.int c_427), .val (.int c_428), .val (.int c_429), .val (.int c_430), .val (.ref b515), .val (.ref wF), .val (.int (0 : Int32)), .val (.int (0 : Int32)), .unset] [(.int (1 : Int32))])) _
              refine XS.ifYes X545.here hx rfl (pc0 := 278) (pc' := 291) rfl (hb hby at_278) rfl ((if0 _ _).trans (feq (by decide : ¬ ((1 : Int32) = (0 : Int32)))).2) (by decide) (by decide) ?_
              show Steps p.tables e below (T545.setTop (mkF m 291 #[.val (.int p0), .val (.int p1), .val (.int p2), .val (.int p3), .val (.int p4), .val (.int (1 : Int32)), .val (.int (3 : Int32)), .val (.int c_427), .val (.int c_428), .val (.int c_429), .val (.int c_430), .val (.ref b515), .val (.ref wF), .val (.int (0 : Int32)), .val (.int (0 : Int32)), .unset] [])) _
              refine XS.iconst X545.here hx rfl (hb hby at_291) ?_
              show Steps p.tables e below (T545.setTop (mkF m 292 #[.val (.int p0), .val (.int p1), .val (.int p2), .val (.int p3), .val (.int p4), .val (.int (1 : Int32)), .val (.int (3 : Int32)), .val (.int c_427), .val (.int c_428), .val (.int c_429), .val (.int c_430), .val (.ref b515), .val (.ref wF), .val (.int (0 : Int32)), .val (.int (0 : Int32)), .unset] [(.int (1 : Int32))])) _
              refine XS.goto X545.here hx rfl (pc0 := 292) (pc' := 296) rfl (hb hby at_292) (by decide) (by decide) ?_
              show Steps p.tables e below (T545.setTop (mkF m 296 #[.val (.int p0), .val (.int p1), .val (.int p2), .val (.int p3), .val (.int p4), .val (.int (1 : Int32)), .val (.int (3 : Int32)), .val (.int c_427), .val (.int c_428), .val (.int c_429), .val (.int c_430), .val (.ref b515), .val (.ref wF), .val (.int (0 : Int32)), .val (.int (0 : Int32)), .unset] [(.int (1 : Int32))])) _
              refine XS.istore X545.here hx rfl (hb hby at_296) rfl (l' := #[.val (.int p0), .val (.int p1), .val (.int p2), .val (.int p3), .val (.int p4), .val (.int (1 : Int32)), .val (.int (3 : Int32)), .val (.int c_427), .val (.int c_428), .val (.int c_429), .val (.int c_430), .val (.ref b515), .val (.ref wF), .val (.int (0 : Int32)), .val (.int (0 : Int32)), .val (.int (1 : Int32))]) rfl ?_
              show Steps p.tables e below (T545.setTop (mkF m 298 #[.val (.int p0), .val (.int p1), .val (.int p2), .val (.int p3), .val (.int p4), .val (.int (1 : Int32)), .val (.int (3 : Int32)), .val (.int c_427), .val (.int c_428), .val (.int c_429), .val (.int c_430), .val (.ref b515), .val (.ref wF), .val (.int (0 : Int32)), .val (.int (0 : Int32)), .val (.int (1 : Int32))] [])) _
              refine XS.aload X545.here hx rfl (hb hby at_298) rfl rfl ?_
              show Steps p.tables e below (T545.setTop (mkF m 300 #[.val (.int p0), .val (.int p1), .val (.int p2), .val (.int p3), .val (.int p4), .val (.int (1 : Int32)), .val (.int (3 : Int32)), .val (.int c_427), .val (.int c_428), .val (.int c_429), .val (.int c_430), .val (.ref b515), .val (.ref wF), .val (.int (0 : Int32)), .val (.int (0 : Int32)), .val (.int (1 : Int32))] [(.ref wF)])) _
              refine XS.aload X545.here hx rfl (hb hby at_300) rfl rfl ?_
              show Steps p.tables e below (T545.setTop (mkF m 302 #[.val (.int p0), .val (.int p1), .val (.int p2), .val (.int p3), .val (.int p4), .val (.int (1 : Int32)), .val (.int (3 : Int32)), .val (.int c_427), .val (.int c_428), .val (.int c_429), .val (.int c_430), .val (.ref b515), .val (.ref wF), .val (.int (0 : Int32)), .val (.int (0 : Int32)), .val (.int (1 : Int32))] [(.ref b515), (.ref wF)])) _
              refine st561.trans ?_
              show Steps p.tables e below (T561.setTop (mkF m 305 #[.val (.int p0), .val (.int p1), .val (.int p2), .val (.int p3), .val (.int p4), .val (.int (1 : Int32)), .val (.int (3 : Int32)), .val (.int c_427), .val (.int c_428), .val (.int c_429), .val (.int c_430), .val (.ref b515), .val (.ref wF), .val (.int (0 : Int32)), .val (.int (0 : Int32)), .val (.int (1 : Int32))] [(.int (1 : Int32))])) _
              refine XS.iload X561.here hx rfl (hb hby at_305) rfl ?_
              show Steps p.tables e below (T561.setTop (mkF m 307 #[.val (.int p0), .val (.int p1), .val (.int p2), .val (.int p3), .val (.int p4), .val (.int (1 : Int32)), .val (.int (3 : Int32)), .val (.int c_427), .val (.int c_428), .val (.int c_429), .val (.int c_430), .val (.ref b515), .val (.ref wF), .val (.int (0 : Int32)), .val (.int (0 : Int32)), .val (.int (1 : Int32))] [(.int (1 : Int32)), (.int (1 : Int32))])) _
              refine XS.icmpNo X561.here hx rfl (hb hby at_307) rfl (teq (by decide : (1 : Int32) = (1 : Int32))).2 ?_
              show Steps p.tables e below (T561.setTop (mkF m 310 #[.val (.int p0), .val (.int p1), .val (.int p2), .val (.int p3), .val (.int p4), .val (.int (1 : Int32)), .val (.int (3 : Int32)), .val (.int c_427), .val (.int c_428), .val (.int c_429), .val (.int c_430), .val (.ref b515), .val (.ref wF), .val (.int (0 : Int32)), .val (.int (0 : Int32)), .val (.int (1 : Int32))] [])) _
              refine XS.iconst X561.here hx rfl (hb hby at_310) ?_
              show Steps p.tables e below (T561.setTop (mkF m 311 #[.val (.int p0), .val (.int p1), .val (.int p2), .val (.int p3), .val (.int p4), .val (.int (1 : Int32)), .val (.int (3 : Int32)), .val (.int c_427), .val (.int c_428), .val (.int c_429), .val (.int c_430), .val (.ref b515), .val (.ref wF), .val (.int (0 : Int32)), .val (.int (0 : Int32)), .val (.int (1 : Int32))] [(.int (1 : Int32))])) _
              refine XS.goto X561.here hx rfl (pc0 := 311) (pc' := 315) rfl (hb hby at_311) (by decide) (by decide) ?_
              show Steps p.tables e below (T561.setTop (mkF m 315 #[.val (.int p0), .val (.int p1), .val (.int p2), .val (.int p3), .val (.int p4), .val (.int (1 : Int32)), .val (.int (3 : Int32)), .val (.int c_427), .val (.int c_428), .val (.int c_429), .val (.int c_430), .val (.ref b515), .val (.ref wF), .val (.int (0 : Int32)), .val (.int (0 : Int32)), .val (.int (1 : Int32))] [(.int (1 : Int32))])) _
              exact retN X561 hx (t := .boolean) Bd.returns (by simp) (hb hby at_315) hr
            · show Qrm0 Z p0 p1 p2 p3 p4 wF wR G1 h0 n0 _ T561.heap _
              exact ⟨rfl, (fun y hy => Nat.le_trans Z0 (N561 y hy)), KC565⟩
        · have Xo566 : Ext Z.heap T535.heap := own_extT X00 (own_ext KC541)
          have Fc567 := (own_staK Fc539 K535 (allS ⟨_, Fc536⟩ all0))
          have z569 := congrArg Array.size e545
          have Fc570 := ((((((H2.ext E515).ext E519).wr W524).wr W528).wr W532).keep K535)
          obtain ⟨cq568, kq568, qa568, qb568, qc568⟩ := isOf hZ e545 Fc570
          obtain ⟨_, _, ⟨T568, L568, k568, n568⟩, -, Y568, hY568, gY568, ⟨Lc568, hQ568, l568, y568, z568⟩, st568⟩ := X545.virtualBackS hx (y := (⟨"com/example/task_relay/taskrelay/Scope", "allows", "(Ljava/lang/String;)Z"⟩ : MethodName)) (z := (⟨"com/example/task_relay/taskrelay/Scope", "allows", "(Ljava/lang/String;)Z"⟩ : MethodName)) hown (mvT hZ (hw _ (List.mem_of_getElem? (i := 15) rfl))) (mvT hZ (hw _ (List.mem_of_getElem? (i := 16) rfl))) (notFace_of_selects (args := #[]) (mvT hZ (hw _ (List.mem_of_getElem? (i := 18) rfl)))) (mvT hZ (hw _ (List.mem_of_getElem? (i := 18) rfl))) (mvT hZ (hw _ (List.mem_of_getElem? (i := 17) rfl))) (by decide) (backOfI (W := 0) (rmaf1 l Z a0 hw [] b515 wF G1 T535.heap h0.size (by omega) Fc544 Fc567 (hG1 : ¬ (G1 = (0 : Int32))) (hh58 : Jvm.Lit.constHeld Z "com/example/task_relay/taskrelay/Scope" 58) (hh60 : Jvm.Lit.constHeld Z "com/example/task_relay/taskrelay/Scope" 60) (Xo566 : Ext Z.heap T535.heap) (hcw : Jvm.Lit.compactW.before a0 Z = true)) hZ (hw _ (List.mem_of_getElem? (i := 19) rfl)) (hw _ (List.mem_of_getElem? (i := 13) rfl)) (by decide) (by decide)) qa568 qc568 (g := (mkF m 302 #[.val (.int p0), .val (.int p1), .val (.int p2), .val (.int p3), .val (.int p4), .val (.int (1 : Int32)), .val (.int (3 : Int32)), .val (.int c_427), .val (.int c_428), .val (.int c_429), .val (.int c_430), .val (.ref b515), .val (.ref wF), .val (.int (0 : Int32)), .val (.int (0 : Int32)), .val (.int (1 : Int32))] [(.ref b515), (.ref wF)])) rfl (by rw [hml]; rfl) (Steps.refl _) (argsL := [(.ref b515)]) (rest := []) (lenOf pd_2 rfl) rfl (by show 2 * 0 + _ ≤ _; exact Nat.le_of_eq rfl) (hb hby at_302) (fun _ Hw => ⟨rfl, e545, (by decide : 3 + 0 ≤ _), (by decide : 10 + 0 ≤ _), own_IBw hI Hw⟩)
          dsimp only [Pt.U, Pt.locs, Pt.cells, Pt.slots] at Y568 hY568 gY568 l568 y568 z568 st568 hQ568
          subst l568 y568 z568
          obtain ⟨X568, hS568, hZ568, hw568⟩ := rebS (s := s) (vm0 := s.vm) hS0 (by omega : h0.size ≤ T545.heap.size) Y568 hY568 gY568 hZ hown
          obtain ⟨rfl, N568q, K568⟩ := hQ568
          have N568 := Fr.app N535 N568q
          have z571 := K568.1
          have KC572 : Keep h0 T568.heap [] := KC541.trans K568 all0
          obtain ⟨fs, hr, hrun, hended, rE1, rE2, rE3, rE4⟩ := leaveW (s := s) (vm₁ := T568.vm) X568 hS568 (by omega : T568.heap.size ≤ T568.heap.size) (v := some (.int (1 : Int32))) (fun h => by rw [Bd.returns] at h; cases h)
          refine ⟨_, _, pre548 _ ?_, hrun, hended, _, _, rfl, ?_, rE1, rE2, rE3, rE4.mono (by decide) (by decide)⟩
          · show Steps p.tables e below (T545.setTop (mkF m 218 #[.val (.int p0), .val (.int p1), .val (.int p2), .val (.int p3), .val (.int p4), .val (.int (1 : Int32)), .val (.int (3 : Int32)), .val (.int c_427), .val (.int c_428), .val (.int c_429), .val (.int c_430), .val (.ref b515), .val (.ref wF), .unset, .unset, .unset] [(.int (69 : Int32)), (.int c_428)])) _
            refine XS.icmpYes X545.here hx rfl (pc0 := 218) (pc' := 232) rfl (hb hby at_218) rfl (feq (hc549 : ¬ (c_428 = (69 : Int32)))).2 (by decide) (by decide) ?_
            show Steps p.tables e below (T545.setTop (mkF m 232 #[.val (.int p0), .val (.int p1), .val (.int p2), .val (.int p3), .val (.int p4), .val (.int (1 : Int32)), .val (.int (3 : Int32)), .val (.int c_427), .val (.int c_428), .val (.int c_429), .val (.int c_430), .val (.ref b515), .val (.ref wF), .unset, .unset, .unset] [])) _
            refine XS.iconst X545.here hx rfl (hb hby at_232) ?_
            show Steps p.tables e below (T545.setTop (mkF m 233 #[.val (.int p0), .val (.int p1), .val (.int p2), .val (.int p3), .val (.int p4), .val (.int (1 : Int32)), .val (.int (3 : Int32)), .val (.int c_427), .val (.int c_428), .val (.int c_429), .val (.int c_430), .val (.ref b515), .val (.ref wF), .unset, .unset, .unset] [(.int (0 : Int32))])) _
            refine XS.istore X545.here hx rfl (hb hby at_233) rfl (l' := #[.val (.int p0), .val (.int p1), .val (.int p2), .val (.int p3), .val (.int p4), .val (.int (1 : Int32)), .val (.int (3 : Int32)), .val (.int c_427), .val (.int c_428), .val (.int c_429), .val (.int c_430), .val (.ref b515), .val (.ref wF), .val (.int (0 : Int32)), .unset, .unset]) rfl ?_
            show Steps p.tables e below (T545.setTop (mkF m 235 #[.val (.int p0), .val (.int p1), .val (.int p2), .val (.int p3), .val (.int p4), .val (.int (1 : Int32)), .val (.int (3 : Int32)), .val (.int c_427), .val (.int c_428), .val (.int c_429), .val (.int c_430), .val (.ref b515), .val (.ref wF), .val (.int (0 : Int32)), .unset, .unset] [])) _
            refine XS.iload X545.here hx rfl (hb hby at_235) rfl ?_
            show Steps p.tables e below (T545.setTop (mkF m 237 #[.val (.int p0), .val (.int p1), .val (.int p2), .val (.int p3), .val (.int p4), .val (.int (1 : Int32)), .val (.int (3 : Int32)), .val (.int c_427), .val (.int c_428), .val (.int c_429), .val (.int c_430), .val (.ref b515), .val (.ref wF), .val (.int (0 : Int32)), .unset, .unset] [(.int (3 : Int32))])) _
            refine XS.iconst X545.here hx rfl (hb hby at_237) ?_
            show Steps p.tables e below (T545.setTop (mkF m 238 #[.val (.int p0), .val (.int p1), .val (.int p2), .val (.int p3), .val (.int p4), .val (.int (1 : Int32)), .val (.int (3 : Int32)), .val (.int c_427), .val (.int c_428), .val (.int c_429), .val (.int c_430), .val (.ref b515), .val (.ref wF), .val (.int (0 : Int32)), .unset, .unset] [(.int (4 : Int32)), (.int (3 : Int32))])) _
            refine XS.icmpYes X545.here hx rfl (pc0 := 238) (pc' := 273) rfl (hb hby at_238) rfl (feq (by decide : ¬ ((3 : Int32) = (4 : Int32)))).2 (by decide) (by decide) ?_
            show Steps p.tables e below (T545.setTop (mkF m 273 #[.val (.int p0), .val (.int p1), .val (.int p2), .val (.int p3), .val (.int p4), .val (.int (1 : Int32)), .val (.int (3 : Int32)), .val (.int c_427), .val (.int c_428), .val (.int c_429), .val (.int c_430), .val (.ref b515), .val (.ref wF), .val (.int (0 : Int32)), .unset, .unset] [])) _
            refine XS.iconst X545.here hx rfl (hb hby at_273) ?_
            show Steps p.tables e below (T545.setTop (mkF m 274 #[.val (.int p0), .val (.int p1), .val (.int p2), .val (.int p3), .val (.int p4), .val (.int (1 : Int32)), .val (.int (3 : Int32)), .val (.int c_427), .val (.int c_428), .val (.int c_429), .val (.int c_430), .val (.ref b515), .val (.ref wF), .val (.int (0 : Int32)), .unset, .unset] [(.int (0 : Int32))])) _
            refine XS.istore X545.here hx rfl (hb hby at_274) rfl (l' := #[.val (.int p0), .val (.int p1), .val (.int p2), .val (.int p3), .val (.int p4), .val (.int (1 : Int32)), .val (.int (3 : Int32)), .val (.int c_427), .val (.int c_428), .val (.int c_429), .val (.int c_430), .val (.ref b515), .val (.ref wF), .val (.int (0 : Int32)), .val (.int (0 : Int32)), .unset]) rfl ?_
            show Steps p.tables e below (T545.setTop (mkF m 276 #[.val (.int p0), .val (.int p1), .val (.int p2), .val (.int p3), .val (.int p4), .val (.int (1 : Int32)), .val (.int (3 : Int32)), .val (.int c_427), .val (.int c_428), .val (.int c_429), .val (.int c_430), .val (.ref b515), .val (.ref wF), .val (.int (0 : Int32)), .val (.int (0 : Int32)), .unset] [])) _
            refine XS.iload X545.here hx rfl (hb hby at_276) rfl ?_
            show Steps p.tables e below (T545.setTop (mkF m 278 #[.val (.int p0), .val (.int p1), .val (.int p2), .val (.int p3), .val (.int p4), .val (.int (1 : Int32)), .val (.int (3 : Int32)), .val (.int c_427), .val (.int c_428), .val (.int c_429), .val (.int c_430), .val (.ref b515), .val (.ref wF), .val (.int (0 : Int32)), .val (.int (0 : Int32)), .unset] [(.int (1 : Int32))])) _
            refine XS.ifYes X545.here hx rfl (pc0 := 278) (pc' := 291) rfl (hb hby at_278) rfl ((if0 _ _).trans (feq (by decide : ¬ ((1 : Int32) = (0 : Int32)))).2) (by decide) (by decide) ?_
            show Steps p.tables e below (T545.setTop (mkF m 291 #[.val (.int p0), .val (.int p1), .val (.int p2), .val (.int p3), .val (.int p4), .val (.int (1 : Int32)), .val (.int (3 : Int32)), .val (.int c_427), .val (.int c_428), .val (.int c_429), .val (.int c_430), .val (.ref b515), .val (.ref wF), .val (.int (0 : Int32)), .val (.int (0 : Int32)), .unset] [])) _
            refine XS.iconst X545.here hx rfl (hb hby at_291) ?_
            show Steps p.tables e below (T545.setTop (mkF m 292 #[.val (.int p0), .val (.int p1), .val (.int p2), .val (.int p3), .val (.int p4), .val (.int (1 : Int32)), .val (.int (3 : Int32)), .val (.int c_427), .val (.int c_428), .val (.int c_429), .val (.int c_430), .val (.ref b515), .val (.ref wF), .val (.int (0 : Int32)), .val (.int (0 : Int32)), .unset] [(.int (1 : Int32))])) _
            refine XS.goto X545.here hx rfl (pc0 := 292) (pc' := 296) rfl (hb hby at_292) (by decide) (by decide) ?_
            show Steps p.tables e below (T545.setTop (mkF m 296 #[.val (.int p0), .val (.int p1), .val (.int p2), .val (.int p3), .val (.int p4), .val (.int (1 : Int32)), .val (.int (3 : Int32)), .val (.int c_427), .val (.int c_428), .val (.int c_429), .val (.int c_430), .val (.ref b515), .val (.ref wF), .val (.int (0 : Int32)), .val (.int (0 : Int32)), .unset] [(.int (1 : Int32))])) _
            refine XS.istore X545.here hx rfl (hb hby at_296) rfl (l' := #[.val (.int p0), .val (.int p1), .val (.int p2), .val (.int p3), .val (.int p4), .val (.int (1 : Int32)), .val (.int (3 : Int32)), .val (.int c_427), .val (.int c_428), .val (.int c_429), .val (.int c_430), .val (.ref b515), .val (.ref wF), .val (.int (0 : Int32)), .val (.int (0 : Int32)), .val (.int (1 : Int32))]) rfl ?_
            show Steps p.tables e below (T545.setTop (mkF m 298 #[.val (.int p0), .val (.int p1), .val (.int p2), .val (.int p3), .val (.int p4), .val (.int (1 : Int32)), .val (.int (3 : Int32)), .val (.int c_427), .val (.int c_428), .val (.int c_429), .val (.int c_430), .val (.ref b515), .val (.ref wF), .val (.int (0 : Int32)), .val (.int (0 : Int32)), .val (.int (1 : Int32))] [])) _
            refine XS.aload X545.here hx rfl (hb hby at_298) rfl rfl ?_
            show Steps p.tables e below (T545.setTop (mkF m 300 #[.val (.int p0), .val (.int p1), .val (.int p2), .val (.int p3), .val (.int p4), .val (.int (1 : Int32)), .val (.int (3 : Int32)), .val (.int c_427), .val (.int c_428), .val (.int c_429), .val (.int c_430), .val (.ref b515), .val (.ref wF), .val (.int (0 : Int32)), .val (.int (0 : Int32)), .val (.int (1 : Int32))] [(.ref wF)])) _
            refine XS.aload X545.here hx rfl (hb hby at_300) rfl rfl ?_
            show Steps p.tables e below (T545.setTop (mkF m 302 #[.val (.int p0), .val (.int p1), .val (.int p2), .val (.int p3), .val (.int p4), .val (.int (1 : Int32)), .val (.int (3 : Int32)), .val (.int c_427), .val (.int c_428), .val (.int c_429), .val (.int c_430), .val (.ref b515), .val (.ref wF), .val (.int (0 : Int32)), .val (.int (0 : Int32)), .val (.int (1 : Int32))] [(.ref b515), (.ref wF)])) _
            refine st568.trans ?_
            show Steps p.tables e below (T568.setTop (mkF m 305 #[.val (.int p0), .val (.int p1), .val (.int p2), .val (.int p3), .val (.int p4), .val (.int (1 : Int32)), .val (.int (3 : Int32)), .val (.int c_427), .val (.int c_428), .val (.int c_429), .val (.int c_430), .val (.ref b515), .val (.ref wF), .val (.int (0 : Int32)), .val (.int (0 : Int32)), .val (.int (1 : Int32))] [(.int (1 : Int32))])) _
            refine XS.iload X568.here hx rfl (hb hby at_305) rfl ?_
            show Steps p.tables e below (T568.setTop (mkF m 307 #[.val (.int p0), .val (.int p1), .val (.int p2), .val (.int p3), .val (.int p4), .val (.int (1 : Int32)), .val (.int (3 : Int32)), .val (.int c_427), .val (.int c_428), .val (.int c_429), .val (.int c_430), .val (.ref b515), .val (.ref wF), .val (.int (0 : Int32)), .val (.int (0 : Int32)), .val (.int (1 : Int32))] [(.int (1 : Int32)), (.int (1 : Int32))])) _
            refine XS.icmpNo X568.here hx rfl (hb hby at_307) rfl (teq (by decide : (1 : Int32) = (1 : Int32))).2 ?_
            show Steps p.tables e below (T568.setTop (mkF m 310 #[.val (.int p0), .val (.int p1), .val (.int p2), .val (.int p3), .val (.int p4), .val (.int (1 : Int32)), .val (.int (3 : Int32)), .val (.int c_427), .val (.int c_428), .val (.int c_429), .val (.int c_430), .val (.ref b515), .val (.ref wF), .val (.int (0 : Int32)), .val (.int (0 : Int32)), .val (.int (1 : Int32))] [])) _
            refine XS.iconst X568.here hx rfl (hb hby at_310) ?_
            show Steps p.tables e below (T568.setTop (mkF m 311 #[.val (.int p0), .val (.int p1), .val (.int p2), .val (.int p3), .val (.int p4), .val (.int (1 : Int32)), .val (.int (3 : Int32)), .val (.int c_427), .val (.int c_428), .val (.int c_429), .val (.int c_430), .val (.ref b515), .val (.ref wF), .val (.int (0 : Int32)), .val (.int (0 : Int32)), .val (.int (1 : Int32))] [(.int (1 : Int32))])) _
            refine XS.goto X568.here hx rfl (pc0 := 311) (pc' := 315) rfl (hb hby at_311) (by decide) (by decide) ?_
            show Steps p.tables e below (T568.setTop (mkF m 315 #[.val (.int p0), .val (.int p1), .val (.int p2), .val (.int p3), .val (.int p4), .val (.int (1 : Int32)), .val (.int (3 : Int32)), .val (.int c_427), .val (.int c_428), .val (.int c_429), .val (.int c_430), .val (.ref b515), .val (.ref wF), .val (.int (0 : Int32)), .val (.int (0 : Int32)), .val (.int (1 : Int32))] [(.int (1 : Int32))])) _
            exact retN X568 hx (t := .boolean) Bd.returns (by simp) (hb hby at_315) hr
          · show Qrm0 Z p0 p1 p2 p3 p4 wF wR G1 h0 n0 _ T568.heap _
            exact ⟨rfl, (fun y hy => Nat.le_trans Z0 (N568 y hy)), KC572⟩
      · have Xo573 : Ext Z.heap T535.heap := own_extT X00 (own_ext KC541)
        have Fc574 := (own_staK Fc539 K535 (allS ⟨_, Fc536⟩ all0))
        have z576 := congrArg Array.size e545
        have Fc577 := ((((((H2.ext E515).ext E519).wr W524).wr W528).wr W532).keep K535)
        obtain ⟨cq575, kq575, qa575, qb575, qc575⟩ := isOf hZ e545 Fc577
        obtain ⟨_, _, ⟨T575, L575, k575, n575⟩, -, Y575, hY575, gY575, ⟨Lc575, hQ575, l575, y575, z575⟩, st575⟩ := X545.virtualBackS hx (y := (⟨"com/example/task_relay/taskrelay/Scope", "allows", "(Ljava/lang/String;)Z"⟩ : MethodName)) (z := (⟨"com/example/task_relay/taskrelay/Scope", "allows", "(Ljava/lang/String;)Z"⟩ : MethodName)) hown (mvT hZ (hw _ (List.mem_of_getElem? (i := 15) rfl))) (mvT hZ (hw _ (List.mem_of_getElem? (i := 16) rfl))) (notFace_of_selects (args := #[]) (mvT hZ (hw _ (List.mem_of_getElem? (i := 18) rfl)))) (mvT hZ (hw _ (List.mem_of_getElem? (i := 18) rfl))) (mvT hZ (hw _ (List.mem_of_getElem? (i := 17) rfl))) (by decide) (backOfI (W := 0) (rmaf1 l Z a0 hw [] b515 wF G1 T535.heap h0.size (by omega) Fc544 Fc574 (hG1 : ¬ (G1 = (0 : Int32))) (hh58 : Jvm.Lit.constHeld Z "com/example/task_relay/taskrelay/Scope" 58) (hh60 : Jvm.Lit.constHeld Z "com/example/task_relay/taskrelay/Scope" 60) (Xo573 : Ext Z.heap T535.heap) (hcw : Jvm.Lit.compactW.before a0 Z = true)) hZ (hw _ (List.mem_of_getElem? (i := 19) rfl)) (hw _ (List.mem_of_getElem? (i := 13) rfl)) (by decide) (by decide)) qa575 qc575 (g := (mkF m 302 #[.val (.int p0), .val (.int p1), .val (.int p2), .val (.int p3), .val (.int p4), .val (.int (1 : Int32)), .val (.int (3 : Int32)), .val (.int c_427), .val (.int c_428), .val (.int c_429), .val (.int c_430), .val (.ref b515), .val (.ref wF), .val (.int (0 : Int32)), .val (.int (0 : Int32)), .val (.int (1 : Int32))] [(.ref b515), (.ref wF)])) rfl (by rw [hml]; rfl) (Steps.refl _) (argsL := [(.ref b515)]) (rest := []) (lenOf pd_2 rfl) rfl (by show 2 * 0 + _ ≤ _; exact Nat.le_of_eq rfl) (hb hby at_302) (fun _ Hw => ⟨rfl, e545, (by decide : 3 + 0 ≤ _), (by decide : 10 + 0 ≤ _), own_IBw hI Hw⟩)
        dsimp only [Pt.U, Pt.locs, Pt.cells, Pt.slots] at Y575 hY575 gY575 l575 y575 z575 st575 hQ575
        subst l575 y575 z575
        obtain ⟨X575, hS575, hZ575, hw575⟩ := rebS (s := s) (vm0 := s.vm) hS0 (by omega : h0.size ≤ T545.heap.size) Y575 hY575 gY575 hZ hown
        obtain ⟨rfl, N575q, K575⟩ := hQ575
        have N575 := Fr.app N535 N575q
        have z578 := K575.1
        have KC579 : Keep h0 T575.heap [] := KC541.trans K575 all0
        obtain ⟨fs, hr, hrun, hended, rE1, rE2, rE3, rE4⟩ := leaveW (s := s) (vm₁ := T575.vm) X575 hS575 (by omega : T575.heap.size ≤ T575.heap.size) (v := some (.int (1 : Int32))) (fun h => by rw [Bd.returns] at h; cases h)
        refine ⟨_, _, pre546 _ ?_, hrun, hended, _, _, rfl, ?_, rE1, rE2, rE3, rE4.mono (by decide) (by decide)⟩
        · show Steps p.tables e below (T545.setTop (mkF m 211 #[.val (.int p0), .val (.int p1), .val (.int p2), .val (.int p3), .val (.int p4), .val (.int (1 : Int32)), .val (.int (3 : Int32)), .val (.int c_427), .val (.int c_428), .val (.int c_429), .val (.int c_430), .val (.ref b515), .val (.ref wF), .unset, .unset, .unset] [(.int (71 : Int32)), (.int c_427)])) _
          refine XS.icmpYes X545.here hx rfl (pc0 := 211) (pc' := 232) rfl (hb hby at_211) rfl (feq (hc547 : ¬ (c_427 = (71 : Int32)))).2 (by decide) (by decide) ?_
          show Steps p.tables e below (T545.setTop (mkF m 232 #[.val (.int p0), .val (.int p1), .val (.int p2), .val (.int p3), .val (.int p4), .val (.int (1 : Int32)), .val (.int (3 : Int32)), .val (.int c_427), .val (.int c_428), .val (.int c_429), .val (.int c_430), .val (.ref b515), .val (.ref wF), .unset, .unset, .unset] [])) _
          refine XS.iconst X545.here hx rfl (hb hby at_232) ?_
          show Steps p.tables e below (T545.setTop (mkF m 233 #[.val (.int p0), .val (.int p1), .val (.int p2), .val (.int p3), .val (.int p4), .val (.int (1 : Int32)), .val (.int (3 : Int32)), .val (.int c_427), .val (.int c_428), .val (.int c_429), .val (.int c_430), .val (.ref b515), .val (.ref wF), .unset, .unset, .unset] [(.int (0 : Int32))])) _
          refine XS.istore X545.here hx rfl (hb hby at_233) rfl (l' := #[.val (.int p0), .val (.int p1), .val (.int p2), .val (.int p3), .val (.int p4), .val (.int (1 : Int32)), .val (.int (3 : Int32)), .val (.int c_427), .val (.int c_428), .val (.int c_429), .val (.int c_430), .val (.ref b515), .val (.ref wF), .val (.int (0 : Int32)), .unset, .unset]) rfl ?_
          show Steps p.tables e below (T545.setTop (mkF m 235 #[.val (.int p0), .val (.int p1), .val (.int p2), .val (.int p3), .val (.int p4), .val (.int (1 : Int32)), .val (.int (3 : Int32)), .val (.int c_427), .val (.int c_428), .val (.int c_429), .val (.int c_430), .val (.ref b515), .val (.ref wF), .val (.int (0 : Int32)), .unset, .unset] [])) _
          refine XS.iload X545.here hx rfl (hb hby at_235) rfl ?_
          show Steps p.tables e below (T545.setTop (mkF m 237 #[.val (.int p0), .val (.int p1), .val (.int p2), .val (.int p3), .val (.int p4), .val (.int (1 : Int32)), .val (.int (3 : Int32)), .val (.int c_427), .val (.int c_428), .val (.int c_429), .val (.int c_430), .val (.ref b515), .val (.ref wF), .val (.int (0 : Int32)), .unset, .unset] [(.int (3 : Int32))])) _
          refine XS.iconst X545.here hx rfl (hb hby at_237) ?_
          show Steps p.tables e below (T545.setTop (mkF m 238 #[.val (.int p0), .val (.int p1), .val (.int p2), .val (.int p3), .val (.int p4), .val (.int (1 : Int32)), .val (.int (3 : Int32)), .val (.int c_427), .val (.int c_428), .val (.int c_429), .val (.int c_430), .val (.ref b515), .val (.ref wF), .val (.int (0 : Int32)), .unset, .unset] [(.int (4 : Int32)), (.int (3 : Int32))])) _
          refine XS.icmpYes X545.here hx rfl (pc0 := 238) (pc' := 273) rfl (hb hby at_238) rfl (feq (by decide : ¬ ((3 : Int32) = (4 : Int32)))).2 (by decide) (by decide) ?_
          show Steps p.tables e below (T545.setTop (mkF m 273 #[.val (.int p0), .val (.int p1), .val (.int p2), .val (.int p3), .val (.int p4), .val (.int (1 : Int32)), .val (.int (3 : Int32)), .val (.int c_427), .val (.int c_428), .val (.int c_429), .val (.int c_430), .val (.ref b515), .val (.ref wF), .val (.int (0 : Int32)), .unset, .unset] [])) _
          refine XS.iconst X545.here hx rfl (hb hby at_273) ?_
          show Steps p.tables e below (T545.setTop (mkF m 274 #[.val (.int p0), .val (.int p1), .val (.int p2), .val (.int p3), .val (.int p4), .val (.int (1 : Int32)), .val (.int (3 : Int32)), .val (.int c_427), .val (.int c_428), .val (.int c_429), .val (.int c_430), .val (.ref b515), .val (.ref wF), .val (.int (0 : Int32)), .unset, .unset] [(.int (0 : Int32))])) _
          refine XS.istore X545.here hx rfl (hb hby at_274) rfl (l' := #[.val (.int p0), .val (.int p1), .val (.int p2), .val (.int p3), .val (.int p4), .val (.int (1 : Int32)), .val (.int (3 : Int32)), .val (.int c_427), .val (.int c_428), .val (.int c_429), .val (.int c_430), .val (.ref b515), .val (.ref wF), .val (.int (0 : Int32)), .val (.int (0 : Int32)), .unset]) rfl ?_
          show Steps p.tables e below (T545.setTop (mkF m 276 #[.val (.int p0), .val (.int p1), .val (.int p2), .val (.int p3), .val (.int p4), .val (.int (1 : Int32)), .val (.int (3 : Int32)), .val (.int c_427), .val (.int c_428), .val (.int c_429), .val (.int c_430), .val (.ref b515), .val (.ref wF), .val (.int (0 : Int32)), .val (.int (0 : Int32)), .unset] [])) _
          refine XS.iload X545.here hx rfl (hb hby at_276) rfl ?_
          show Steps p.tables e below (T545.setTop (mkF m 278 #[.val (.int p0), .val (.int p1), .val (.int p2), .val (.int p3), .val (.int p4), .val (.int (1 : Int32)), .val (.int (3 : Int32)), .val (.int c_427), .val (.int c_428), .val (.int c_429), .val (.int c_430), .val (.ref b515), .val (.ref wF), .val (.int (0 : Int32)), .val (.int (0 : Int32)), .unset] [(.int (1 : Int32))])) _
          refine XS.ifYes X545.here hx rfl (pc0 := 278) (pc' := 291) rfl (hb hby at_278) rfl ((if0 _ _).trans (feq (by decide : ¬ ((1 : Int32) = (0 : Int32)))).2) (by decide) (by decide) ?_
          show Steps p.tables e below (T545.setTop (mkF m 291 #[.val (.int p0), .val (.int p1), .val (.int p2), .val (.int p3), .val (.int p4), .val (.int (1 : Int32)), .val (.int (3 : Int32)), .val (.int c_427), .val (.int c_428), .val (.int c_429), .val (.int c_430), .val (.ref b515), .val (.ref wF), .val (.int (0 : Int32)), .val (.int (0 : Int32)), .unset] [])) _
          refine XS.iconst X545.here hx rfl (hb hby at_291) ?_
          show Steps p.tables e below (T545.setTop (mkF m 292 #[.val (.int p0), .val (.int p1), .val (.int p2), .val (.int p3), .val (.int p4), .val (.int (1 : Int32)), .val (.int (3 : Int32)), .val (.int c_427), .val (.int c_428), .val (.int c_429), .val (.int c_430), .val (.ref b515), .val (.ref wF), .val (.int (0 : Int32)), .val (.int (0 : Int32)), .unset] [(.int (1 : Int32))])) _
          refine XS.goto X545.here hx rfl (pc0 := 292) (pc' := 296) rfl (hb hby at_292) (by decide) (by decide) ?_
          show Steps p.tables e below (T545.setTop (mkF m 296 #[.val (.int p0), .val (.int p1), .val (.int p2), .val (.int p3), .val (.int p4), .val (.int (1 : Int32)), .val (.int (3 : Int32)), .val (.int c_427), .val (.int c_428), .val (.int c_429), .val (.int c_430), .val (.ref b515), .val (.ref wF), .val (.int (0 : Int32)), .val (.int (0 : Int32)), .unset] [(.int (1 : Int32))])) _
          refine XS.istore X545.here hx rfl (hb hby at_296) rfl (l' := #[.val (.int p0), .val (.int p1), .val (.int p2), .val (.int p3), .val (.int p4), .val (.int (1 : Int32)), .val (.int (3 : Int32)), .val (.int c_427), .val (.int c_428), .val (.int c_429), .val (.int c_430), .val (.ref b515), .val (.ref wF), .val (.int (0 : Int32)), .val (.int (0 : Int32)), .val (.int (1 : Int32))]) rfl ?_
          show Steps p.tables e below (T545.setTop (mkF m 298 #[.val (.int p0), .val (.int p1), .val (.int p2), .val (.int p3), .val (.int p4), .val (.int (1 : Int32)), .val (.int (3 : Int32)), .val (.int c_427), .val (.int c_428), .val (.int c_429), .val (.int c_430), .val (.ref b515), .val (.ref wF), .val (.int (0 : Int32)), .val (.int (0 : Int32)), .val (.int (1 : Int32))] [])) _
          refine XS.aload X545.here hx rfl (hb hby at_298) rfl rfl ?_
          show Steps p.tables e below (T545.setTop (mkF m 300 #[.val (.int p0), .val (.int p1), .val (.int p2), .val (.int p3), .val (.int p4), .val (.int (1 : Int32)), .val (.int (3 : Int32)), .val (.int c_427), .val (.int c_428), .val (.int c_429), .val (.int c_430), .val (.ref b515), .val (.ref wF), .val (.int (0 : Int32)), .val (.int (0 : Int32)), .val (.int (1 : Int32))] [(.ref wF)])) _
          refine XS.aload X545.here hx rfl (hb hby at_300) rfl rfl ?_
          show Steps p.tables e below (T545.setTop (mkF m 302 #[.val (.int p0), .val (.int p1), .val (.int p2), .val (.int p3), .val (.int p4), .val (.int (1 : Int32)), .val (.int (3 : Int32)), .val (.int c_427), .val (.int c_428), .val (.int c_429), .val (.int c_430), .val (.ref b515), .val (.ref wF), .val (.int (0 : Int32)), .val (.int (0 : Int32)), .val (.int (1 : Int32))] [(.ref b515), (.ref wF)])) _
          refine st575.trans ?_
          show Steps p.tables e below (T575.setTop (mkF m 305 #[.val (.int p0), .val (.int p1), .val (.int p2), .val (.int p3), .val (.int p4), .val (.int (1 : Int32)), .val (.int (3 : Int32)), .val (.int c_427), .val (.int c_428), .val (.int c_429), .val (.int c_430), .val (.ref b515), .val (.ref wF), .val (.int (0 : Int32)), .val (.int (0 : Int32)), .val (.int (1 : Int32))] [(.int (1 : Int32))])) _
          refine XS.iload X575.here hx rfl (hb hby at_305) rfl ?_
          show Steps p.tables e below (T575.setTop (mkF m 307 #[.val (.int p0), .val (.int p1), .val (.int p2), .val (.int p3), .val (.int p4), .val (.int (1 : Int32)), .val (.int (3 : Int32)), .val (.int c_427), .val (.int c_428), .val (.int c_429), .val (.int c_430), .val (.ref b515), .val (.ref wF), .val (.int (0 : Int32)), .val (.int (0 : Int32)), .val (.int (1 : Int32))] [(.int (1 : Int32)), (.int (1 : Int32))])) _
          refine XS.icmpNo X575.here hx rfl (hb hby at_307) rfl (teq (by decide : (1 : Int32) = (1 : Int32))).2 ?_
          show Steps p.tables e below (T575.setTop (mkF m 310 #[.val (.int p0), .val (.int p1), .val (.int p2), .val (.int p3), .val (.int p4), .val (.int (1 : Int32)), .val (.int (3 : Int32)), .val (.int c_427), .val (.int c_428), .val (.int c_429), .val (.int c_430), .val (.ref b515), .val (.ref wF), .val (.int (0 : Int32)), .val (.int (0 : Int32)), .val (.int (1 : Int32))] [])) _
          refine XS.iconst X575.here hx rfl (hb hby at_310) ?_
          show Steps p.tables e below (T575.setTop (mkF m 311 #[.val (.int p0), .val (.int p1), .val (.int p2), .val (.int p3), .val (.int p4), .val (.int (1 : Int32)), .val (.int (3 : Int32)), .val (.int c_427), .val (.int c_428), .val (.int c_429), .val (.int c_430), .val (.ref b515), .val (.ref wF), .val (.int (0 : Int32)), .val (.int (0 : Int32)), .val (.int (1 : Int32))] [(.int (1 : Int32))])) _
          refine XS.goto X575.here hx rfl (pc0 := 311) (pc' := 315) rfl (hb hby at_311) (by decide) (by decide) ?_
          show Steps p.tables e below (T575.setTop (mkF m 315 #[.val (.int p0), .val (.int p1), .val (.int p2), .val (.int p3), .val (.int p4), .val (.int (1 : Int32)), .val (.int (3 : Int32)), .val (.int c_427), .val (.int c_428), .val (.int c_429), .val (.int c_430), .val (.ref b515), .val (.ref wF), .val (.int (0 : Int32)), .val (.int (0 : Int32)), .val (.int (1 : Int32))] [(.int (1 : Int32))])) _
          exact retN X575 hx (t := .boolean) Bd.returns (by simp) (hb hby at_315) hr
        · show Qrm0 Z p0 p1 p2 p3 p4 wF wR G1 h0 n0 _ T575.heap _
          exact ⟨rfl, (fun y hy => Nat.le_trans Z0 (N575 y hy)), KC579⟩
    · have pre580 : ∀ t, Steps p.tables e below (T430.setTop (mkF m 48 #[.val (.int p0), .val (.int p1), .val (.int p2), .val (.int p3), .val (.int p4), .val (.int (1 : Int32)), .val (.int (4 : Int32)), .val (.int c_427), .val (.int c_428), .val (.int c_429), .val (.int c_430), .unset, .unset, .unset, .unset, .unset] [])) t → Steps p.tables e below (s₁.setTop (entryFrame m #[(.int p0), (.int p1), (.int p2), (.int p3), (.int p4)] maxLocals)) t := fun t k => pre431 t (by rw [hv432]; exact k)
      obtain ⟨T581, h581, X581, e581, E581, A581, D581, -, st581⟩ := newO X430 hx hZ hown (hw _ (List.mem_of_getElem? (i := 38) rfl)) (hw _ (List.mem_of_getElem? (i := 6) rfl)) (hw _ (List.mem_of_getElem? (i := 5) rfl)) e430 (g := (mkF m 153 #[.val (.int p0), .val (.int p1), .val (.int p2), .val (.int p3), .val (.int p4), .val (.int (1 : Int32)), .val (.int (4 : Int32)), .val (.int c_427), .val (.int c_428), .val (.int c_429), .val (.int c_430), .unset, .unset, .unset, .unset, .unset] [])) rfl (hb hby at_153) (by decide) (by decide)
      obtain ⟨b581, g581⟩ : ∃ z, z = h0.size := ⟨_, rfl⟩
      rw [← g581] at A581 D581 st581
      have z582 := E581.1
      have KC583 : Keep h0 h581 [] := KC0.ext E581
      have z584 : @LT.lt Nat _ b581 (Array.size h581) := A581.lt
      have F581_value : Fld Z h581 b581 "java/lang/String" "value" "[B" .null := D581 (Or.inr (hw _ (List.mem_of_getElem? (i := 8) rfl))) (ty := (.array .byte)) (by decide)
      have F581_coder : Fld Z h581 b581 "java/lang/String" "coder" "B" (.int (0 : Int32)) := D581 (Or.inr (hw _ (List.mem_of_getElem? (i := 9) rfl))) (ty := .byte) (by decide)
      obtain ⟨T585, h585, k585, X585, e585, E585, A585, st585⟩ := newP X581 hx hZ (hw _ (List.mem_of_getElem? (i := 39) rfl)) e581 (g := (mkF m 158 #[.val (.int p0), .val (.int p1), .val (.int p2), .val (.int p3), .val (.int p4), .val (.int (1 : Int32)), .val (.int (4 : Int32)), .val (.int c_427), .val (.int c_428), .val (.int c_429), .val (.int c_430), .unset, .unset, .unset, .unset, .unset] [(.int (4 : Int32)), (.ref b581), (.ref b581)])) rfl (hb hby at_158) rfl (by decide) (cap := 4) (by decide) (by decide) (by decide) (by decide)
      obtain ⟨b585, g585⟩ : ∃ z, z = h581.size := ⟨_, rfl⟩
      rw [← g585] at A585 st585
      have z586 := E585.1
      have KC587 : Keep h0 h585 [] := KC583.ext E585
      have V585 : Arv Z h585 b585 k585 .char (4 : Int32) [(.int (0 : Int32)), (.int (0 : Int32)), (.int (0 : Int32)), (.int (0 : Int32))] (.int (0 : Int32)) := (Arv.new A585 (by decide)).pad (pad_rep [] (.int (0 : Int32)) 4)
      have z588 : @LT.lt Nat _ b585 (Array.size h585) := V585.lt
      obtain ⟨cl589, Ar589, q589, S589, N589', H589, G589⟩ := id V585
      have hin589 : ¬ ((0 : Int32) < 0 ∨ cl589.slots.size ≤ ((0 : Int32)).toNatClampNeg) := inb_of S589 ⟨by decide, by decide⟩
      obtain ⟨T590, h590, X590, e590, W590, st590⟩ := stC X585 hx hZ e585 Ar589 (j := (0 : Int32)) hin589 (g := (mkF m 164 #[.val (.int p0), .val (.int p1), .val (.int p2), .val (.int p3), .val (.int p4), .val (.int (1 : Int32)), .val (.int (4 : Int32)), .val (.int c_427), .val (.int c_428), .val (.int c_429), .val (.int c_430), .unset, .unset, .unset, .unset, .unset] [(.int c_427), (.int (0 : Int32)), (.ref b585), (.ref b585), (.ref b581), (.ref b581)])) rfl rfl (hb hby at_164)
      have z591 := W590.size
      have N590 := Fr.snoc X590 N430 (by omega : h0.size ≤ b585)
      have KC592 : Keep h0 h590 [] := KC587.wr W590 (Or.inr (by omega))
      have V590 : Arv Z h590 b585 k585 .char (4 : Int32) [(.int (nar .char c_427)), (.int (0 : Int32)), (.int (0 : Int32)), (.int (0 : Int32))] (.int (0 : Int32)) := Arv.set Ar589 q589 S589 N589' H589 G589 (fits_nar_char _) W590 0 rfl (Nat.le_of_ble_eq_true rfl)
      rw [P427_1] at V590
      obtain ⟨cl593, Ar593, q593, S593, N593', H593, G593⟩ := id V590
      have hin593 : ¬ ((1 : Int32) < 0 ∨ cl593.slots.size ≤ ((1 : Int32)).toNatClampNeg) := inb_of S593 ⟨by decide, by decide⟩
      obtain ⟨T594, h594, X594, e594, W594, st594⟩ := stC X590 hx hZ e590 Ar593 (j := (1 : Int32)) hin593 (g := (mkF m 169 #[.val (.int p0), .val (.int p1), .val (.int p2), .val (.int p3), .val (.int p4), .val (.int (1 : Int32)), .val (.int (4 : Int32)), .val (.int c_427), .val (.int c_428), .val (.int c_429), .val (.int c_430), .unset, .unset, .unset, .unset, .unset] [(.int c_428), (.int (1 : Int32)), (.ref b585), (.ref b585), (.ref b581), (.ref b581)])) rfl rfl (hb hby at_169)
      have z595 := W594.size
      have N594 := Fr.snoc X594 N590 (by omega : h0.size ≤ b585)
      have KC596 : Keep h0 h594 [] := KC592.wr W594 (Or.inr (by omega))
      have V594 : Arv Z h594 b585 k585 .char (4 : Int32) [(.int c_427), (.int (nar .char c_428)), (.int (0 : Int32)), (.int (0 : Int32))] (.int (0 : Int32)) := Arv.set Ar593 q593 S593 N593' H593 G593 (fits_nar_char _) W594 1 rfl (Nat.le_of_ble_eq_true rfl)
      rw [P428_1] at V594
      obtain ⟨cl597, Ar597, q597, S597, N597', H597, G597⟩ := id V594
      have hin597 : ¬ ((2 : Int32) < 0 ∨ cl597.slots.size ≤ ((2 : Int32)).toNatClampNeg) := inb_of S597 ⟨by decide, by decide⟩
      obtain ⟨T598, h598, X598, e598, W598, st598⟩ := stC X594 hx hZ e594 Ar597 (j := (2 : Int32)) hin597 (g := (mkF m 174 #[.val (.int p0), .val (.int p1), .val (.int p2), .val (.int p3), .val (.int p4), .val (.int (1 : Int32)), .val (.int (4 : Int32)), .val (.int c_427), .val (.int c_428), .val (.int c_429), .val (.int c_430), .unset, .unset, .unset, .unset, .unset] [(.int c_429), (.int (2 : Int32)), (.ref b585), (.ref b585), (.ref b581), (.ref b581)])) rfl rfl (hb hby at_174)
      have z599 := W598.size
      have N598 := Fr.snoc X598 N594 (by omega : h0.size ≤ b585)
      have KC600 : Keep h0 h598 [] := KC596.wr W598 (Or.inr (by omega))
      have V598 : Arv Z h598 b585 k585 .char (4 : Int32) [(.int c_427), (.int c_428), (.int (nar .char c_429)), (.int (0 : Int32))] (.int (0 : Int32)) := Arv.set Ar597 q597 S597 N597' H597 G597 (fits_nar_char _) W598 2 rfl (Nat.le_of_ble_eq_true rfl)
      rw [P429_1] at V598
      obtain ⟨cl601, Ar601, q601, S601, N601', H601, G601⟩ := id V598
      have hin601 : ¬ ((3 : Int32) < 0 ∨ cl601.slots.size ≤ ((3 : Int32)).toNatClampNeg) := inb_of S601 ⟨by decide, by decide⟩
      obtain ⟨T602, h602, X602, e602, W602, st602⟩ := stC X598 hx hZ e598 Ar601 (j := (3 : Int32)) hin601 (g := (mkF m 179 #[.val (.int p0), .val (.int p1), .val (.int p2), .val (.int p3), .val (.int p4), .val (.int (1 : Int32)), .val (.int (4 : Int32)), .val (.int c_427), .val (.int c_428), .val (.int c_429), .val (.int c_430), .unset, .unset, .unset, .unset, .unset] [(.int c_430), (.int (3 : Int32)), (.ref b585), (.ref b585), (.ref b581), (.ref b581)])) rfl rfl (hb hby at_179)
      have z603 := W602.size
      have N602 := Fr.snoc X602 N598 (by omega : h0.size ≤ b585)
      have KC604 : Keep h0 h602 [] := KC600.wr W602 (Or.inr (by omega))
      have V602 : Arv Z h602 b585 k585 .char (4 : Int32) [(.int c_427), (.int c_428), (.int c_429), (.int (nar .char c_430))] (.int (0 : Int32)) := Arv.set Ar601 q601 S601 N601' H601 G601 (fits_nar_char _) W602 3 rfl (Nat.le_of_ble_eq_true rfl)
      rw [P430_1] at V602
      have Fc606 := (((((A581.ext E585).wr W590).wr W594).wr W598).wr W602)
      have Fc607 := (((((F581_value.ext E585).other W590 (Or.inl (by omega : @Ne Nat b581 b585))).other W594 (Or.inl (by omega : @Ne Nat b581 b585))).other W598 (Or.inl (by omega : @Ne Nat b581 b585))).other W602 (Or.inl (by omega : @Ne Nat b581 b585)))
      have Fc608 := (((((F581_coder.ext E585).other W590 (Or.inl (by omega : @Ne Nat b581 b585))).other W594 (Or.inl (by omega : @Ne Nat b581 b585))).other W598 (Or.inl (by omega : @Ne Nat b581 b585))).other W602 (Or.inl (by omega : @Ne Nat b581 b585)))
      have Fc609 := ((((((H4.ext E581).ext E585).wr W590).wr W594).wr W598).wr W602)
      have hp605 : ∀ c ∈ ([c_427, c_428, c_429, c_430] : List Int32), ¬ c < 0 ∧ ¬ (255 : Int32) < c := by
        intro c hc
        simp only [List.mem_cons, List.not_mem_nil, or_false] at hc
        rcases hc with rfl | rfl | rfl | rfl
        · exact P427_0
        · exact P428_0
        · exact P429_0
        · exact P430_0
      obtain ⟨_, _, ⟨T605, L605, k605, n605⟩, -, X605, ⟨Lc605, hQ605, l605, y605, z605⟩, st605⟩ := X602.specialBack hx (y := (⟨"java/lang/String", "<init>", "([C)V"⟩ : MethodName)) rfl hown (mvT hZ (hw _ (List.mem_of_getElem? (i := 40) rfl))) (mvT hZ (hw _ (List.mem_of_getElem? (i := 41) rfl))) (mvT hZ (hw _ (List.mem_of_getElem? (i := 42) rfl))) (by decide) (StrChars.Road.backV (W := 1) hZ (fun d hd => hw d (own_words d hd)) (kI := 4) (hw _ (List.mem_of_getElem? (i := 6) rfl)) (cs := ([c_427, c_428, c_429, c_430] : List Int32)) (bs := (([c_427, c_428, c_429, c_430] : List Int32)).map (fun c => c.toInt8.toInt32)) (n := 4) (by omega : h0.size ≤ b581) (by omega : h0.size ≤ h602.size) Fc606 Fc607 Fc608 V602 Fc609 hG1 rfl rfl (by decide) (by decide) hp605 rfl (by decide) (by decide)) (g := (mkF m 180 #[.val (.int p0), .val (.int p1), .val (.int p2), .val (.int p3), .val (.int p4), .val (.int (1 : Int32)), .val (.int (4 : Int32)), .val (.int c_427), .val (.int c_428), .val (.int c_429), .val (.int c_430), .unset, .unset, .unset, .unset, .unset] [(.ref b585), (.ref b581), (.ref b581)])) rfl (by rw [hml]; rfl) (Steps.refl _) (a := b581) (argsL := [(.ref b585)]) (rest := [(.ref b581)]) (lenOf pd_3 rfl) rfl (by show 2 * 0 + _ ≤ _; exact Nat.le_of_eq rfl) (hb hby at_180) (fun _ _ => ⟨rfl, e602, (by decide : 2 + 1 ≤ _), (by decide : 8 + 4 ≤ _)⟩)
      dsimp only [Pt.U, Pt.locs, Pt.cells, Pt.slots] at X605 l605 y605 z605 st605 hQ605
      subst l605 y605 z605
      obtain ⟨rfl, N605q, K605, P605E, P605C, bv605, kb605, u605a, u605b, u605c, P605V, P605A⟩ := hQ605
      have N605 := Fr.app N602 N605q
      have z610 := K605.1
      have KC611 : Keep h0 T605.heap [] := KC604.trans K605 (allS (Or.inr (by omega)) all0)
      have P605B : Arv Z T605.heap bv605 kb605 .byte (4 : Int32) [(.int (c_427).toInt8.toInt32), (.int (c_428).toInt8.toInt32), (.int (c_429).toInt8.toInt32), (.int (c_430).toInt8.toInt32)] (.int (0 : Int32)) := P605A
      have z612 : @LT.lt Nat _ b581 (Array.size T605.heap) := P605E.lt
      have z613 : @LT.lt Nat _ bv605 (Array.size T605.heap) := P605A.lt
      have Fc614 := (own_staK ((((((H0.ext E581).ext E585).wr W590).wr W594).wr W598).wr W602) K605 (allS ⟨_, Fc606⟩ all0))
      obtain ⟨T615, X615, e615, st615⟩ := getS2 X605 hx hZ hown (host := "") (Or.inl (hw _ (List.mem_of_getElem? (i := 59) rfl))) Via.refl rfl Fc614 (g := (mkF m 190 #[.val (.int p0), .val (.int p1), .val (.int p2), .val (.int p3), .val (.int p4), .val (.int (1 : Int32)), .val (.int (4 : Int32)), .val (.int c_427), .val (.int c_428), .val (.int c_429), .val (.int c_430), .val (.ref b581), .unset, .unset, .unset, .unset] [])) rfl (hb hby at_190)
      have pre616 : ∀ t, Steps p.tables e below (T615.setTop (mkF m 245 #[.val (.int p0), .val (.int p1), .val (.int p2), .val (.int p3), .val (.int p4), .val (.int (1 : Int32)), .val (.int (4 : Int32)), .val (.int c_427), .val (.int c_428), .val (.int c_429), .val (.int c_430), .val (.ref b581), .val (.ref wF), .val (.int (0 : Int32)), .unset, .unset] [(.int (72 : Int32)), (.int c_427)])) t → Steps p.tables e below (s₁.setTop (entryFrame m #[(.int p0), (.int p1), (.int p2), (.int p3), (.int p4)] maxLocals)) t := fun t k => by
        refine pre580 _ ?_
        show Steps p.tables e below (T430.setTop (mkF m 48 #[.val (.int p0), .val (.int p1), .val (.int p2), .val (.int p3), .val (.int p4), .val (.int (1 : Int32)), .val (.int (4 : Int32)), .val (.int c_427), .val (.int c_428), .val (.int c_429), .val (.int c_430), .unset, .unset, .unset, .unset, .unset] [])) _
        refine XS.iload X430.here hx rfl (hb hby at_48) rfl ?_
        show Steps p.tables e below (T430.setTop (mkF m 50 #[.val (.int p0), .val (.int p1), .val (.int p2), .val (.int p3), .val (.int p4), .val (.int (1 : Int32)), .val (.int (4 : Int32)), .val (.int c_427), .val (.int c_428), .val (.int c_429), .val (.int c_430), .unset, .unset, .unset, .unset, .unset] [(.int (4 : Int32))])) _
        refine XS.ifYes X430.here hx rfl (pc0 := 50) (pc' := 60) rfl (hb hby at_50) rfl ((if0 _ _).trans (feq (by decide : ¬ ((4 : Int32) = (0 : Int32)))).2) (by decide) (by decide) ?_
        show Steps p.tables e below (T430.setTop (mkF m 60 #[.val (.int p0), .val (.int p1), .val (.int p2), .val (.int p3), .val (.int p4), .val (.int (1 : Int32)), .val (.int (4 : Int32)), .val (.int c_427), .val (.int c_428), .val (.int c_429), .val (.int c_430), .unset, .unset, .unset, .unset, .unset] [])) _
        refine XS.iload X430.here hx rfl (hb hby at_60) rfl ?_
        show Steps p.tables e below (T430.setTop (mkF m 62 #[.val (.int p0), .val (.int p1), .val (.int p2), .val (.int p3), .val (.int p4), .val (.int (1 : Int32)), .val (.int (4 : Int32)), .val (.int c_427), .val (.int c_428), .val (.int c_429), .val (.int c_430), .unset, .unset, .unset, .unset, .unset] [(.int (4 : Int32))])) _
        refine XS.iconst X430.here hx rfl (hb hby at_62) ?_
        show Steps p.tables e below (T430.setTop (mkF m 63 #[.val (.int p0), .val (.int p1), .val (.int p2), .val (.int p3), .val (.int p4), .val (.int (1 : Int32)), .val (.int (4 : Int32)), .val (.int c_427), .val (.int c_428), .val (.int c_429), .val (.int c_430), .unset, .unset, .unset, .unset, .unset] [(.int (1 : Int32)), (.int (4 : Int32))])) _
        refine XS.icmpYes X430.here hx rfl (pc0 := 63) (pc' := 86) rfl (hb hby at_63) rfl (feq (by decide : ¬ ((4 : Int32) = (1 : Int32)))).2 (by decide) (by decide) ?_
        show Steps p.tables e below (T430.setTop (mkF m 86 #[.val (.int p0), .val (.int p1), .val (.int p2), .val (.int p3), .val (.int p4), .val (.int (1 : Int32)), .val (.int (4 : Int32)), .val (.int c_427), .val (.int c_428), .val (.int c_429), .val (.int c_430), .unset, .unset, .unset, .unset, .unset] [])) _
        refine XS.iload X430.here hx rfl (hb hby at_86) rfl ?_
        show Steps p.tables e below (T430.setTop (mkF m 88 #[.val (.int p0), .val (.int p1), .val (.int p2), .val (.int p3), .val (.int p4), .val (.int (1 : Int32)), .val (.int (4 : Int32)), .val (.int c_427), .val (.int c_428), .val (.int c_429), .val (.int c_430), .unset, .unset, .unset, .unset, .unset] [(.int (4 : Int32))])) _
        refine XS.iconst X430.here hx rfl (hb hby at_88) ?_
        show Steps p.tables e below (T430.setTop (mkF m 89 #[.val (.int p0), .val (.int p1), .val (.int p2), .val (.int p3), .val (.int p4), .val (.int (1 : Int32)), .val (.int (4 : Int32)), .val (.int c_427), .val (.int c_428), .val (.int c_429), .val (.int c_430), .unset, .unset, .unset, .unset, .unset] [(.int (2 : Int32)), (.int (4 : Int32))])) _
        refine XS.icmpYes X430.here hx rfl (pc0 := 89) (pc' := 117) rfl (hb hby at_89) rfl (feq (by decide : ¬ ((4 : Int32) = (2 : Int32)))).2 (by decide) (by decide) ?_
        show Steps p.tables e below (T430.setTop (mkF m 117 #[.val (.int p0), .val (.int p1), .val (.int p2), .val (.int p3), .val (.int p4), .val (.int (1 : Int32)), .val (.int (4 : Int32)), .val (.int c_427), .val (.int c_428), .val (.int c_429), .val (.int c_430), .unset, .unset, .unset, .unset, .unset] [])) _
        refine XS.iload X430.here hx rfl (hb hby at_117) rfl ?_
        show Steps p.tables e below (T430.setTop (mkF m 119 #[.val (.int p0), .val (.int p1), .val (.int p2), .val (.int p3), .val (.int p4), .val (.int (1 : Int32)), .val (.int (4 : Int32)), .val (.int c_427), .val (.int c_428), .val (.int c_429), .val (.int c_430), .unset, .unset, .unset, .unset, .unset] [(.int (4 : Int32))])) _
        refine XS.iconst X430.here hx rfl (hb hby at_119) ?_
        show Steps p.tables e below (T430.setTop (mkF m 120 #[.val (.int p0), .val (.int p1), .val (.int p2), .val (.int p3), .val (.int p4), .val (.int (1 : Int32)), .val (.int (4 : Int32)), .val (.int c_427), .val (.int c_428), .val (.int c_429), .val (.int c_430), .unset, .unset, .unset, .unset, .unset] [(.int (3 : Int32)), (.int (4 : Int32))])) _
        refine XS.icmpYes X430.here hx rfl (pc0 := 120) (pc' := 153) rfl (hb hby at_120) rfl (feq (by decide : ¬ ((4 : Int32) = (3 : Int32)))).2 (by decide) (by decide) ?_
        show Steps p.tables e below (T430.setTop (mkF m 153 #[.val (.int p0), .val (.int p1), .val (.int p2), .val (.int p3), .val (.int p4), .val (.int (1 : Int32)), .val (.int (4 : Int32)), .val (.int c_427), .val (.int c_428), .val (.int c_429), .val (.int c_430), .unset, .unset, .unset, .unset, .unset] [])) _
        refine st581 _ ?_
        show Steps p.tables e below (T581.setTop (mkF m 156 #[.val (.int p0), .val (.int p1), .val (.int p2), .val (.int p3), .val (.int p4), .val (.int (1 : Int32)), .val (.int (4 : Int32)), .val (.int c_427), .val (.int c_428), .val (.int c_429), .val (.int c_430), .unset, .unset, .unset, .unset, .unset] [(.ref b581)])) _
        refine XS.dup X581.here hx rfl (hb hby at_156) rfl rfl ?_
        show Steps p.tables e below (T581.setTop (mkF m 157 #[.val (.int p0), .val (.int p1), .val (.int p2), .val (.int p3), .val (.int p4), .val (.int (1 : Int32)), .val (.int (4 : Int32)), .val (.int c_427), .val (.int c_428), .val (.int c_429), .val (.int c_430), .unset, .unset, .unset, .unset, .unset] [(.ref b581), (.ref b581)])) _
        refine XS.iconst X581.here hx rfl (hb hby at_157) ?_
        show Steps p.tables e below (T581.setTop (mkF m 158 #[.val (.int p0), .val (.int p1), .val (.int p2), .val (.int p3), .val (.int p4), .val (.int (1 : Int32)), .val (.int (4 : Int32)), .val (.int c_427), .val (.int c_428), .val (.int c_429), .val (.int c_430), .unset, .unset, .unset, .unset, .unset] [(.int (4 : Int32)), (.ref b581), (.ref b581)])) _
        refine st585 _ ?_
        show Steps p.tables e below (T585.setTop (mkF m 160 #[.val (.int p0), .val (.int p1), .val (.int p2), .val (.int p3), .val (.int p4), .val (.int (1 : Int32)), .val (.int (4 : Int32)), .val (.int c_427), .val (.int c_428), .val (.int c_429), .val (.int c_430), .unset, .unset, .unset, .unset, .unset] [(.ref b585), (.ref b581), (.ref b581)])) _
        refine XS.dup X585.here hx rfl (hb hby at_160) rfl rfl ?_
        show Steps p.tables e below (T585.setTop (mkF m 161 #[.val (.int p0), .val (.int p1), .val (.int p2), .val (.int p3), .val (.int p4), .val (.int (1 : Int32)), .val (.int (4 : Int32)), .val (.int c_427), .val (.int c_428), .val (.int c_429), .val (.int c_430), .unset, .unset, .unset, .unset, .unset] [(.ref b585), (.ref b585), (.ref b581), (.ref b581)])) _
        refine XS.iconst X585.here hx rfl (hb hby at_161) ?_
        show Steps p.tables e below (T585.setTop (mkF m 162 #[.val (.int p0), .val (.int p1), .val (.int p2), .val (.int p3), .val (.int p4), .val (.int (1 : Int32)), .val (.int (4 : Int32)), .val (.int c_427), .val (.int c_428), .val (.int c_429), .val (.int c_430), .unset, .unset, .unset, .unset, .unset] [(.int (0 : Int32)), (.ref b585), (.ref b585), (.ref b581), (.ref b581)])) _
        refine XS.iload X585.here hx rfl (hb hby at_162) rfl ?_
        show Steps p.tables e below (T585.setTop (mkF m 164 #[.val (.int p0), .val (.int p1), .val (.int p2), .val (.int p3), .val (.int p4), .val (.int (1 : Int32)), .val (.int (4 : Int32)), .val (.int c_427), .val (.int c_428), .val (.int c_429), .val (.int c_430), .unset, .unset, .unset, .unset, .unset] [(.int c_427), (.int (0 : Int32)), (.ref b585), (.ref b585), (.ref b581), (.ref b581)])) _
        refine st590 _ ?_
        show Steps p.tables e below (T590.setTop (mkF m 165 #[.val (.int p0), .val (.int p1), .val (.int p2), .val (.int p3), .val (.int p4), .val (.int (1 : Int32)), .val (.int (4 : Int32)), .val (.int c_427), .val (.int c_428), .val (.int c_429), .val (.int c_430), .unset, .unset, .unset, .unset, .unset] [(.ref b585), (.ref b581), (.ref b581)])) _
        refine XS.dup X590.here hx rfl (hb hby at_165) rfl rfl ?_
        show Steps p.tables e below (T590.setTop (mkF m 166 #[.val (.int p0), .val (.int p1), .val (.int p2), .val (.int p3), .val (.int p4), .val (.int (1 : Int32)), .val (.int (4 : Int32)), .val (.int c_427), .val (.int c_428), .val (.int c_429), .val (.int c_430), .unset, .unset, .unset, .unset, .unset] [(.ref b585), (.ref b585), (.ref b581), (.ref b581)])) _
        refine XS.iconst X590.here hx rfl (hb hby at_166) ?_
        show Steps p.tables e below (T590.setTop (mkF m 167 #[.val (.int p0), .val (.int p1), .val (.int p2), .val (.int p3), .val (.int p4), .val (.int (1 : Int32)), .val (.int (4 : Int32)), .val (.int c_427), .val (.int c_428), .val (.int c_429), .val (.int c_430), .unset, .unset, .unset, .unset, .unset] [(.int (1 : Int32)), (.ref b585), (.ref b585), (.ref b581), (.ref b581)])) _
        refine XS.iload X590.here hx rfl (hb hby at_167) rfl ?_
        show Steps p.tables e below (T590.setTop (mkF m 169 #[.val (.int p0), .val (.int p1), .val (.int p2), .val (.int p3), .val (.int p4), .val (.int (1 : Int32)), .val (.int (4 : Int32)), .val (.int c_427), .val (.int c_428), .val (.int c_429), .val (.int c_430), .unset, .unset, .unset, .unset, .unset] [(.int c_428), (.int (1 : Int32)), (.ref b585), (.ref b585), (.ref b581), (.ref b581)])) _
        refine st594 _ ?_
        show Steps p.tables e below (T594.setTop (mkF m 170 #[.val (.int p0), .val (.int p1), .val (.int p2), .val (.int p3), .val (.int p4), .val (.int (1 : Int32)), .val (.int (4 : Int32)), .val (.int c_427), .val (.int c_428), .val (.int c_429), .val (.int c_430), .unset, .unset, .unset, .unset, .unset] [(.ref b585), (.ref b581), (.ref b581)])) _
        refine XS.dup X594.here hx rfl (hb hby at_170) rfl rfl ?_
        show Steps p.tables e below (T594.setTop (mkF m 171 #[.val (.int p0), .val (.int p1), .val (.int p2), .val (.int p3), .val (.int p4), .val (.int (1 : Int32)), .val (.int (4 : Int32)), .val (.int c_427), .val (.int c_428), .val (.int c_429), .val (.int c_430), .unset, .unset, .unset, .unset, .unset] [(.ref b585), (.ref b585), (.ref b581), (.ref b581)])) _
        refine XS.iconst X594.here hx rfl (hb hby at_171) ?_
        show Steps p.tables e below (T594.setTop (mkF m 172 #[.val (.int p0), .val (.int p1), .val (.int p2), .val (.int p3), .val (.int p4), .val (.int (1 : Int32)), .val (.int (4 : Int32)), .val (.int c_427), .val (.int c_428), .val (.int c_429), .val (.int c_430), .unset, .unset, .unset, .unset, .unset] [(.int (2 : Int32)), (.ref b585), (.ref b585), (.ref b581), (.ref b581)])) _
        refine XS.iload X594.here hx rfl (hb hby at_172) rfl ?_
        show Steps p.tables e below (T594.setTop (mkF m 174 #[.val (.int p0), .val (.int p1), .val (.int p2), .val (.int p3), .val (.int p4), .val (.int (1 : Int32)), .val (.int (4 : Int32)), .val (.int c_427), .val (.int c_428), .val (.int c_429), .val (.int c_430), .unset, .unset, .unset, .unset, .unset] [(.int c_429), (.int (2 : Int32)), (.ref b585), (.ref b585), (.ref b581), (.ref b581)])) _
        refine st598 _ ?_
        show Steps p.tables e below (T598.setTop (mkF m 175 #[.val (.int p0), .val (.int p1), .val (.int p2), .val (.int p3), .val (.int p4), .val (.int (1 : Int32)), .val (.int (4 : Int32)), .val (.int c_427), .val (.int c_428), .val (.int c_429), .val (.int c_430), .unset, .unset, .unset, .unset, .unset] [(.ref b585), (.ref b581), (.ref b581)])) _
        refine XS.dup X598.here hx rfl (hb hby at_175) rfl rfl ?_
        show Steps p.tables e below (T598.setTop (mkF m 176 #[.val (.int p0), .val (.int p1), .val (.int p2), .val (.int p3), .val (.int p4), .val (.int (1 : Int32)), .val (.int (4 : Int32)), .val (.int c_427), .val (.int c_428), .val (.int c_429), .val (.int c_430), .unset, .unset, .unset, .unset, .unset] [(.ref b585), (.ref b585), (.ref b581), (.ref b581)])) _
        refine XS.iconst X598.here hx rfl (hb hby at_176) ?_
        show Steps p.tables e below (T598.setTop (mkF m 177 #[.val (.int p0), .val (.int p1), .val (.int p2), .val (.int p3), .val (.int p4), .val (.int (1 : Int32)), .val (.int (4 : Int32)), .val (.int c_427), .val (.int c_428), .val (.int c_429), .val (.int c_430), .unset, .unset, .unset, .unset, .unset] [(.int (3 : Int32)), (.ref b585), (.ref b585), (.ref b581), (.ref b581)])) _
        refine XS.iload X598.here hx rfl (hb hby at_177) rfl ?_
        show Steps p.tables e below (T598.setTop (mkF m 179 #[.val (.int p0), .val (.int p1), .val (.int p2), .val (.int p3), .val (.int p4), .val (.int (1 : Int32)), .val (.int (4 : Int32)), .val (.int c_427), .val (.int c_428), .val (.int c_429), .val (.int c_430), .unset, .unset, .unset, .unset, .unset] [(.int c_430), (.int (3 : Int32)), (.ref b585), (.ref b585), (.ref b581), (.ref b581)])) _
        refine st602 _ ?_
        show Steps p.tables e below (T602.setTop (mkF m 180 #[.val (.int p0), .val (.int p1), .val (.int p2), .val (.int p3), .val (.int p4), .val (.int (1 : Int32)), .val (.int (4 : Int32)), .val (.int c_427), .val (.int c_428), .val (.int c_429), .val (.int c_430), .unset, .unset, .unset, .unset, .unset] [(.ref b585), (.ref b581), (.ref b581)])) _
        refine st605.trans ?_
        show Steps p.tables e below (T605.setTop (mkF m 183 #[.val (.int p0), .val (.int p1), .val (.int p2), .val (.int p3), .val (.int p4), .val (.int (1 : Int32)), .val (.int (4 : Int32)), .val (.int c_427), .val (.int c_428), .val (.int c_429), .val (.int c_430), .unset, .unset, .unset, .unset, .unset] [(.ref b581)])) _
        refine XS.astore X605.here hx rfl (hb hby at_183) rfl rfl (l' := #[.val (.int p0), .val (.int p1), .val (.int p2), .val (.int p3), .val (.int p4), .val (.int (1 : Int32)), .val (.int (4 : Int32)), .val (.int c_427), .val (.int c_428), .val (.int c_429), .val (.int c_430), .val (.ref b581), .unset, .unset, .unset, .unset]) rfl ?_
        show Steps p.tables e below (T605.setTop (mkF m 185 #[.val (.int p0), .val (.int p1), .val (.int p2), .val (.int p3), .val (.int p4), .val (.int (1 : Int32)), .val (.int (4 : Int32)), .val (.int c_427), .val (.int c_428), .val (.int c_429), .val (.int c_430), .val (.ref b581), .unset, .unset, .unset, .unset] [])) _
        refine XS.iload X605.here hx rfl (hb hby at_185) rfl ?_
        show Steps p.tables e below (T605.setTop (mkF m 187 #[.val (.int p0), .val (.int p1), .val (.int p2), .val (.int p3), .val (.int p4), .val (.int (1 : Int32)), .val (.int (4 : Int32)), .val (.int c_427), .val (.int c_428), .val (.int c_429), .val (.int c_430), .val (.ref b581), .unset, .unset, .unset, .unset] [(.int (1 : Int32))])) _
        refine XS.ifNo X605.here hx rfl (hb hby at_187) rfl ((if0 _ _).trans (feq (by decide : ¬ ((1 : Int32) = (0 : Int32)))).1) ?_
        show Steps p.tables e below (T605.setTop (mkF m 190 #[.val (.int p0), .val (.int p1), .val (.int p2), .val (.int p3), .val (.int p4), .val (.int (1 : Int32)), .val (.int (4 : Int32)), .val (.int c_427), .val (.int c_428), .val (.int c_429), .val (.int c_430), .val (.ref b581), .unset, .unset, .unset, .unset] [])) _
        refine st615 _ ?_
        show Steps p.tables e below (T615.setTop (mkF m 193 #[.val (.int p0), .val (.int p1), .val (.int p2), .val (.int p3), .val (.int p4), .val (.int (1 : Int32)), .val (.int (4 : Int32)), .val (.int c_427), .val (.int c_428), .val (.int c_429), .val (.int c_430), .val (.ref b581), .unset, .unset, .unset, .unset] [(.ref wF)])) _
        refine XS.goto X615.here hx rfl (pc0 := 193) (pc' := 199) rfl (hb hby at_193) (by decide) (by decide) ?_
        show Steps p.tables e below (T615.setTop (mkF m 199 #[.val (.int p0), .val (.int p1), .val (.int p2), .val (.int p3), .val (.int p4), .val (.int (1 : Int32)), .val (.int (4 : Int32)), .val (.int c_427), .val (.int c_428), .val (.int c_429), .val (.int c_430), .val (.ref b581), .unset, .unset, .unset, .unset] [(.ref wF)])) _
        refine XS.astore X615.here hx rfl (hb hby at_199) rfl rfl (l' := #[.val (.int p0), .val (.int p1), .val (.int p2), .val (.int p3), .val (.int p4), .val (.int (1 : Int32)), .val (.int (4 : Int32)), .val (.int c_427), .val (.int c_428), .val (.int c_429), .val (.int c_430), .val (.ref b581), .val (.ref wF), .unset, .unset, .unset]) rfl ?_
        show Steps p.tables e below (T615.setTop (mkF m 201 #[.val (.int p0), .val (.int p1), .val (.int p2), .val (.int p3), .val (.int p4), .val (.int (1 : Int32)), .val (.int (4 : Int32)), .val (.int c_427), .val (.int c_428), .val (.int c_429), .val (.int c_430), .val (.ref b581), .val (.ref wF), .unset, .unset, .unset] [])) _
        refine XS.iload X615.here hx rfl (hb hby at_201) rfl ?_
        show Steps p.tables e below (T615.setTop (mkF m 203 #[.val (.int p0), .val (.int p1), .val (.int p2), .val (.int p3), .val (.int p4), .val (.int (1 : Int32)), .val (.int (4 : Int32)), .val (.int c_427), .val (.int c_428), .val (.int c_429), .val (.int c_430), .val (.ref b581), .val (.ref wF), .unset, .unset, .unset] [(.int (4 : Int32))])) _
        refine XS.iconst X615.here hx rfl (hb hby at_203) ?_
        show Steps p.tables e below (T615.setTop (mkF m 204 #[.val (.int p0), .val (.int p1), .val (.int p2), .val (.int p3), .val (.int p4), .val (.int (1 : Int32)), .val (.int (4 : Int32)), .val (.int c_427), .val (.int c_428), .val (.int c_429), .val (.int c_430), .val (.ref b581), .val (.ref wF), .unset, .unset, .unset] [(.int (3 : Int32)), (.int (4 : Int32))])) _
        refine XS.icmpYes X615.here hx rfl (pc0 := 204) (pc' := 232) rfl (hb hby at_204) rfl (feq (by decide : ¬ ((4 : Int32) = (3 : Int32)))).2 (by decide) (by decide) ?_
        show Steps p.tables e below (T615.setTop (mkF m 232 #[.val (.int p0), .val (.int p1), .val (.int p2), .val (.int p3), .val (.int p4), .val (.int (1 : Int32)), .val (.int (4 : Int32)), .val (.int c_427), .val (.int c_428), .val (.int c_429), .val (.int c_430), .val (.ref b581), .val (.ref wF), .unset, .unset, .unset] [])) _
        refine XS.iconst X615.here hx rfl (hb hby at_232) ?_
        show Steps p.tables e below (T615.setTop (mkF m 233 #[.val (.int p0), .val (.int p1), .val (.int p2), .val (.int p3), .val (.int p4), .val (.int (1 : Int32)), .val (.int (4 : Int32)), .val (.int c_427), .val (.int c_428), .val (.int c_429), .val (.int c_430), .val (.ref b581), .val (.ref wF), .unset, .unset, .unset] [(.int (0 : Int32))])) _
        refine XS.istore X615.here hx rfl (hb hby at_233) rfl (l' := #[.val (.int p0), .val (.int p1), .val (.int p2), .val (.int p3), .val (.int p4), .val (.int (1 : Int32)), .val (.int (4 : Int32)), .val (.int c_427), .val (.int c_428), .val (.int c_429), .val (.int c_430), .val (.ref b581), .val (.ref wF), .val (.int (0 : Int32)), .unset, .unset]) rfl ?_
        show Steps p.tables e below (T615.setTop (mkF m 235 #[.val (.int p0), .val (.int p1), .val (.int p2), .val (.int p3), .val (.int p4), .val (.int (1 : Int32)), .val (.int (4 : Int32)), .val (.int c_427), .val (.int c_428), .val (.int c_429), .val (.int c_430), .val (.ref b581), .val (.ref wF), .val (.int (0 : Int32)), .unset, .unset] [])) _
        refine XS.iload X615.here hx rfl (hb hby at_235) rfl ?_
        show Steps p.tables e below (T615.setTop (mkF m 237 #[.val (.int p0), .val (.int p1), .val (.int p2), .val (.int p3), .val (.int p4), .val (.int (1 : Int32)), .val (.int (4 : Int32)), .val (.int c_427), .val (.int c_428), .val (.int c_429), .val (.int c_430), .val (.ref b581), .val (.ref wF), .val (.int (0 : Int32)), .unset, .unset] [(.int (4 : Int32))])) _
        refine XS.iconst X615.here hx rfl (hb hby at_237) ?_
        show Steps p.tables e below (T615.setTop (mkF m 238 #[.val (.int p0), .val (.int p1), .val (.int p2), .val (.int p3), .val (.int p4), .val (.int (1 : Int32)), .val (.int (4 : Int32)), .val (.int c_427), .val (.int c_428), .val (.int c_429), .val (.int c_430), .val (.ref b581), .val (.ref wF), .val (.int (0 : Int32)), .unset, .unset] [(.int (4 : Int32)), (.int (4 : Int32))])) _
        refine XS.icmpNo X615.here hx rfl (hb hby at_238) rfl (teq (by decide : (4 : Int32) = (4 : Int32))).2 ?_
        show Steps p.tables e below (T615.setTop (mkF m 241 #[.val (.int p0), .val (.int p1), .val (.int p2), .val (.int p3), .val (.int p4), .val (.int (1 : Int32)), .val (.int (4 : Int32)), .val (.int c_427), .val (.int c_428), .val (.int c_429), .val (.int c_430), .val (.ref b581), .val (.ref wF), .val (.int (0 : Int32)), .unset, .unset] [])) _
        refine XS.iload X615.here hx rfl (hb hby at_241) rfl ?_
        show Steps p.tables e below (T615.setTop (mkF m 243 #[.val (.int p0), .val (.int p1), .val (.int p2), .val (.int p3), .val (.int p4), .val (.int (1 : Int32)), .val (.int (4 : Int32)), .val (.int c_427), .val (.int c_428), .val (.int c_429), .val (.int c_430), .val (.ref b581), .val (.ref wF), .val (.int (0 : Int32)), .unset, .unset] [(.int c_427)])) _
        refine XS.bipush X615.here hx rfl (hb hby at_243) ?_
        exact k
      by_cases hc617 : c_427 = (72 : Int32)
      · have pre618 : ∀ t, Steps p.tables e below (T615.setTop (mkF m 252 #[.val (.int p0), .val (.int p1), .val (.int p2), .val (.int p3), .val (.int p4), .val (.int (1 : Int32)), .val (.int (4 : Int32)), .val (.int c_427), .val (.int c_428), .val (.int c_429), .val (.int c_430), .val (.ref b581), .val (.ref wF), .val (.int (0 : Int32)), .unset, .unset] [(.int (69 : Int32)), (.int c_428)])) t → Steps p.tables e below (s₁.setTop (entryFrame m #[(.int p0), (.int p1), (.int p2), (.int p3), (.int p4)] maxLocals)) t := fun t k => by
          refine pre616 _ ?_
          show Steps p.tables e below (T615.setTop (mkF m 245 #[.val (.int p0), .val (.int p1), .val (.int p2), .val (.int p3), .val (.int p4), .val (.int (1 : Int32)), .val (.int (4 : Int32)), .val (.int c_427), .val (.int c_428), .val (.int c_429), .val (.int c_430), .val (.ref b581), .val (.ref wF), .val (.int (0 : Int32)), .unset, .unset] [(.int (72 : Int32)), (.int c_427)])) _
          refine XS.icmpNo X615.here hx rfl (hb hby at_245) rfl (teq (hc617 : c_427 = (72 : Int32))).2 ?_
          show Steps p.tables e below (T615.setTop (mkF m 248 #[.val (.int p0), .val (.int p1), .val (.int p2), .val (.int p3), .val (.int p4), .val (.int (1 : Int32)), .val (.int (4 : Int32)), .val (.int c_427), .val (.int c_428), .val (.int c_429), .val (.int c_430), .val (.ref b581), .val (.ref wF), .val (.int (0 : Int32)), .unset, .unset] [])) _
          refine XS.iload X615.here hx rfl (hb hby at_248) rfl ?_
          show Steps p.tables e below (T615.setTop (mkF m 250 #[.val (.int p0), .val (.int p1), .val (.int p2), .val (.int p3), .val (.int p4), .val (.int (1 : Int32)), .val (.int (4 : Int32)), .val (.int c_427), .val (.int c_428), .val (.int c_429), .val (.int c_430), .val (.ref b581), .val (.ref wF), .val (.int (0 : Int32)), .unset, .unset] [(.int c_428)])) _
          refine XS.bipush X615.here hx rfl (hb hby at_250) ?_
          exact k
        by_cases hc619 : c_428 = (69 : Int32)
        · have pre620 : ∀ t, Steps p.tables e below (T615.setTop (mkF m 259 #[.val (.int p0), .val (.int p1), .val (.int p2), .val (.int p3), .val (.int p4), .val (.int (1 : Int32)), .val (.int (4 : Int32)), .val (.int c_427), .val (.int c_428), .val (.int c_429), .val (.int c_430), .val (.ref b581), .val (.ref wF), .val (.int (0 : Int32)), .unset, .unset] [(.int (65 : Int32)), (.int c_429)])) t → Steps p.tables e below (s₁.setTop (entryFrame m #[(.int p0), (.int p1), (.int p2), (.int p3), (.int p4)] maxLocals)) t := fun t k => by
            refine pre618 _ ?_
            show Steps p.tables e below (T615.setTop (mkF m 252 #[.val (.int p0), .val (.int p1), .val (.int p2), .val (.int p3), .val (.int p4), .val (.int (1 : Int32)), .val (.int (4 : Int32)), .val (.int c_427), .val (.int c_428), .val (.int c_429), .val (.int c_430), .val (.ref b581), .val (.ref wF), .val (.int (0 : Int32)), .unset, .unset] [(.int (69 : Int32)), (.int c_428)])) _
            refine XS.icmpNo X615.here hx rfl (hb hby at_252) rfl (teq (hc619 : c_428 = (69 : Int32))).2 ?_
            show Steps p.tables e below (T615.setTop (mkF m 255 #[.val (.int p0), .val (.int p1), .val (.int p2), .val (.int p3), .val (.int p4), .val (.int (1 : Int32)), .val (.int (4 : Int32)), .val (.int c_427), .val (.int c_428), .val (.int c_429), .val (.int c_430), .val (.ref b581), .val (.ref wF), .val (.int (0 : Int32)), .unset, .unset] [])) _
            refine XS.iload X615.here hx rfl (hb hby at_255) rfl ?_
            show Steps p.tables e below (T615.setTop (mkF m 257 #[.val (.int p0), .val (.int p1), .val (.int p2), .val (.int p3), .val (.int p4), .val (.int (1 : Int32)), .val (.int (4 : Int32)), .val (.int c_427), .val (.int c_428), .val (.int c_429), .val (.int c_430), .val (.ref b581), .val (.ref wF), .val (.int (0 : Int32)), .unset, .unset] [(.int c_429)])) _
            refine XS.bipush X615.here hx rfl (hb hby at_257) ?_
            exact k
          by_cases hc621 : c_429 = (65 : Int32)
          · have pre622 : ∀ t, Steps p.tables e below (T615.setTop (mkF m 266 #[.val (.int p0), .val (.int p1), .val (.int p2), .val (.int p3), .val (.int p4), .val (.int (1 : Int32)), .val (.int (4 : Int32)), .val (.int c_427), .val (.int c_428), .val (.int c_429), .val (.int c_430), .val (.ref b581), .val (.ref wF), .val (.int (0 : Int32)), .unset, .unset] [(.int (68 : Int32)), (.int c_430)])) t → Steps p.tables e below (s₁.setTop (entryFrame m #[(.int p0), (.int p1), (.int p2), (.int p3), (.int p4)] maxLocals)) t := fun t k => by
              refine pre620 _ ?_
              show Steps p.tables e below (T615.setTop (mkF m 259 #[.val (.int p0), .val (.int p1), .val (.int p2), .val (.int p3), .val (.int p4), .val (.int (1 : Int32)), .val (.int (4 : Int32)), .val (.int c_427), .val (.int c_428), .val (.int c_429), .val (.int c_430), .val (.ref b581), .val (.ref wF), .val (.int (0 : Int32)), .unset, .unset] [(.int (65 : Int32)), (.int c_429)])) _
              refine XS.icmpNo X615.here hx rfl (hb hby at_259) rfl (teq (hc621 : c_429 = (65 : Int32))).2 ?_
              show Steps p.tables e below (T615.setTop (mkF m 262 #[.val (.int p0), .val (.int p1), .val (.int p2), .val (.int p3), .val (.int p4), .val (.int (1 : Int32)), .val (.int (4 : Int32)), .val (.int c_427), .val (.int c_428), .val (.int c_429), .val (.int c_430), .val (.ref b581), .val (.ref wF), .val (.int (0 : Int32)), .unset, .unset] [])) _
              refine XS.iload X615.here hx rfl (hb hby at_262) rfl ?_
              show Steps p.tables e below (T615.setTop (mkF m 264 #[.val (.int p0), .val (.int p1), .val (.int p2), .val (.int p3), .val (.int p4), .val (.int (1 : Int32)), .val (.int (4 : Int32)), .val (.int c_427), .val (.int c_428), .val (.int c_429), .val (.int c_430), .val (.ref b581), .val (.ref wF), .val (.int (0 : Int32)), .unset, .unset] [(.int c_430)])) _
              refine XS.bipush X615.here hx rfl (hb hby at_264) ?_
              exact k
            by_cases hc623 : c_430 = (68 : Int32)
            · have Xo624 : Ext Z.heap T605.heap := own_extT X00 (own_ext KC611)
              have Fc625 := (own_staK Fc609 K605 (allS ⟨_, Fc606⟩ all0))
              have z627 := congrArg Array.size e615
              have Fc628 := (((((((H2.ext E581).ext E585).wr W590).wr W594).wr W598).wr W602).keep K605)
              obtain ⟨cq626, kq626, qa626, qb626, qc626⟩ := isOf hZ e615 Fc628
              obtain ⟨_, _, ⟨T626, L626, k626, n626⟩, -, Y626, hY626, gY626, ⟨Lc626, hQ626, l626, y626, z626⟩, st626⟩ := X615.virtualBackS hx (y := (⟨"com/example/task_relay/taskrelay/Scope", "allows", "(Ljava/lang/String;)Z"⟩ : MethodName)) (z := (⟨"com/example/task_relay/taskrelay/Scope", "allows", "(Ljava/lang/String;)Z"⟩ : MethodName)) hown (mvT hZ (hw _ (List.mem_of_getElem? (i := 15) rfl))) (mvT hZ (hw _ (List.mem_of_getElem? (i := 16) rfl))) (notFace_of_selects (args := #[]) (mvT hZ (hw _ (List.mem_of_getElem? (i := 18) rfl)))) (mvT hZ (hw _ (List.mem_of_getElem? (i := 18) rfl))) (mvT hZ (hw _ (List.mem_of_getElem? (i := 17) rfl))) (by decide) (backOfI (W := 0) (rmaf1 l Z a0 hw [] b581 wF G1 T605.heap h0.size (by omega) Fc614 Fc625 (hG1 : ¬ (G1 = (0 : Int32))) (hh58 : Jvm.Lit.constHeld Z "com/example/task_relay/taskrelay/Scope" 58) (hh60 : Jvm.Lit.constHeld Z "com/example/task_relay/taskrelay/Scope" 60) (Xo624 : Ext Z.heap T605.heap) (hcw : Jvm.Lit.compactW.before a0 Z = true)) hZ (hw _ (List.mem_of_getElem? (i := 19) rfl)) (hw _ (List.mem_of_getElem? (i := 13) rfl)) (by decide) (by decide)) qa626 qc626 (g := (mkF m 302 #[.val (.int p0), .val (.int p1), .val (.int p2), .val (.int p3), .val (.int p4), .val (.int (1 : Int32)), .val (.int (4 : Int32)), .val (.int c_427), .val (.int c_428), .val (.int c_429), .val (.int c_430), .val (.ref b581), .val (.ref wF), .val (.int (0 : Int32)), .val (.int (1 : Int32)), .val (.int (1 : Int32))] [(.ref b581), (.ref wF)])) rfl (by rw [hml]; rfl) (Steps.refl _) (argsL := [(.ref b581)]) (rest := []) (lenOf pd_2 rfl) rfl (by show 2 * 0 + _ ≤ _; exact Nat.le_of_eq rfl) (hb hby at_302) (fun _ Hw => ⟨rfl, e615, (by decide : 3 + 0 ≤ _), (by decide : 12 + 0 ≤ _), own_IBw hI Hw⟩)
              dsimp only [Pt.U, Pt.locs, Pt.cells, Pt.slots] at Y626 hY626 gY626 l626 y626 z626 st626 hQ626
              subst l626 y626 z626
              obtain ⟨X626, hS626, hZ626, hw626⟩ := rebS (s := s) (vm0 := s.vm) hS0 (by omega : h0.size ≤ T615.heap.size) Y626 hY626 gY626 hZ hown
              obtain ⟨rfl, N626q, K626⟩ := hQ626
              have N626 := Fr.app N605 N626q
              have z629 := K626.1
              have KC630 : Keep h0 T626.heap [] := KC611.trans K626 all0
              obtain ⟨fs, hr, hrun, hended, rE1, rE2, rE3, rE4⟩ := leaveW (s := s) (vm₁ := T626.vm) X626 hS626 (by omega : T626.heap.size ≤ T626.heap.size) (v := some (.int (1 : Int32))) (fun h => by rw [Bd.returns] at h; cases h)
              refine ⟨_, _, pre622 _ ?_, hrun, hended, _, _, rfl, ?_, rE1, rE2, rE3, rE4.mono (by decide) (by decide)⟩
              · show Steps p.tables e below (T615.setTop (mkF m 266 #[.val (.int p0), .val (.int p1), .val (.int p2), .val (.int p3), .val (.int p4), .val (.int (1 : Int32)), .val (.int (4 : Int32)), .val (.int c_427), .val (.int c_428), .val (.int c_429), .val (.int c_430), .val (.ref b581), .val (.ref wF), .val (.int (0 : Int32)), .unset, .unset] [(.int (68 : Int32)), (.int c_430)])) _
                refine XS.icmpNo X615.here hx rfl (hb hby at_266) rfl (teq (hc623 : c_430 = (68 : Int32))).2 ?_
                show Steps p.tables e below (T615.setTop (mkF m 269 #[.val (.int p0), .val (.int p1), .val (.int p2), .val (.int p3), .val (.int p4), .val (.int (1 : Int32)), .val (.int (4 : Int32)), .val (.int c_427), .val (.int c_428), .val (.int c_429), .val (.int c_430), .val (.ref b581), .val (.ref wF), .val (.int (0 : Int32)), .unset, .unset] [])) _
                refine XS.iconst X615.here hx rfl (hb hby at_269) ?_
                show Steps p.tables e below (T615.setTop (mkF m 270 #[.val (.int p0), .val (.int p1), .val (.int p2), .val (.int p3), .val (.int p4), .val (.int (1 : Int32)), .val (.int (4 : Int32)), .val (.int c_427), .val (.int c_428), .val (.int c_429), .val (.int c_430), .val (.ref b581), .val (.ref wF), .val (.int (0 : Int32)), .unset, .unset] [(.int (1 : Int32))])) _
                refine XS.goto X615.here hx rfl (pc0 := 270) (pc' := 274) rfl (hb hby at_270) (by decide) (by decide) ?_
                show Steps p.tables e below (T615.setTop (mkF m 274 #[.val (.int p0), .val (.int p1), .val (.int p2), .val (.int p3), .val (.int p4), .val (.int (1 : Int32)), .val (.int (4 : Int32)), .val (.int c_427), .val (.int c_428), .val (.int c_429), .val (.int c_430), .val (.ref b581), .val (.ref wF), .val (.int (0 : Int32)), .unset, .unset] [(.int (1 : Int32))])) _
                refine XS.istore X615.here hx rfl (hb hby at_274) rfl (l' := #[.val (.int p0), .val (.int p1), .val (.int p2), .val (.int p3), .val (.int p4), .val (.int (1 : Int32)), .val (.int (4 : Int32)), .val (.int c_427), .val (.int c_428), .val (.int c_429), .val (.int c_430), .val (.ref b581), .val (.ref wF), .val (.int (0 : Int32)), .val (.int (1 : Int32)), .unset]) rfl ?_
                show Steps p.tables e below (T615.setTop (mkF m 276 #[.val (.int p0), .val (.int p1), .val (.int p2), .val (.int p3), .val (.int p4), .val (.int (1 : Int32)), .val (.int (4 : Int32)), .val (.int c_427), .val (.int c_428), .val (.int c_429), .val (.int c_430), .val (.ref b581), .val (.ref wF), .val (.int (0 : Int32)), .val (.int (1 : Int32)), .unset] [])) _
                refine XS.iload X615.here hx rfl (hb hby at_276) rfl ?_
                show Steps p.tables e below (T615.setTop (mkF m 278 #[.val (.int p0), .val (.int p1), .val (.int p2), .val (.int p3), .val (.int p4), .val (.int (1 : Int32)), .val (.int (4 : Int32)), .val (.int c_427), .val (.int c_428), .val (.int c_429), .val (.int c_430), .val (.ref b581), .val (.ref wF), .val (.int (0 : Int32)), .val (.int (1 : Int32)), .unset] [(.int (1 : Int32))])) _
                refine XS.ifYes X615.here hx rfl (pc0 := 278) (pc' := 291) rfl (hb hby at_278) rfl ((if0 _ _).trans (feq (by decide : ¬ ((1 : Int32) = (0 : Int32)))).2) (by decide) (by decide) ?_
                show Steps p.tables e below (T615.setTop (mkF m 291 #[.val (.int p0), .val (.int p1), .val (.int p2), .val (.int p3), .val (.int p4), .val (.int (1 : Int32)), .val (.int (4 : Int32)), .val (.int c_427), .val (.int c_428), .val (.int c_429), .val (.int c_430), .val (.ref b581), .val (.ref wF), .val (.int (0 : Int32)), .val (.int (1 : Int32)), .unset] [])) _
                refine XS.iconst X615.here hx rfl (hb hby at_291) ?_
                show Steps p.tables e below (T615.setTop (mkF m 292 #[.val (.int p0), .val (.int p1), .val (.int p2), .val (.int p3), .val (.int p4), .val (.int (1 : Int32)), .val (.int (4 : Int32)), .val (.int c_427), .val (.int c_428), .val (.int c_429), .val (.int c_430), .val (.ref b581), .val (.ref wF), .val (.int (0 : Int32)), .val (.int (1 : Int32)), .unset] [(.int (1 : Int32))])) _
                refine XS.goto X615.here hx rfl (pc0 := 292) (pc' := 296) rfl (hb hby at_292) (by decide) (by decide) ?_
                show Steps p.tables e below (T615.setTop (mkF m 296 #[.val (.int p0), .val (.int p1), .val (.int p2), .val (.int p3), .val (.int p4), .val (.int (1 : Int32)), .val (.int (4 : Int32)), .val (.int c_427), .val (.int c_428), .val (.int c_429), .val (.int c_430), .val (.ref b581), .val (.ref wF), .val (.int (0 : Int32)), .val (.int (1 : Int32)), .unset] [(.int (1 : Int32))])) _
                refine XS.istore X615.here hx rfl (hb hby at_296) rfl (l' := #[.val (.int p0), .val (.int p1), .val (.int p2), .val (.int p3), .val (.int p4), .val (.int (1 : Int32)), .val (.int (4 : Int32)), .val (.int c_427), .val (.int c_428), .val (.int c_429), .val (.int c_430), .val (.ref b581), .val (.ref wF), .val (.int (0 : Int32)), .val (.int (1 : Int32)), .val (.int (1 : Int32))]) rfl ?_
                show Steps p.tables e below (T615.setTop (mkF m 298 #[.val (.int p0), .val (.int p1), .val (.int p2), .val (.int p3), .val (.int p4), .val (.int (1 : Int32)), .val (.int (4 : Int32)), .val (.int c_427), .val (.int c_428), .val (.int c_429), .val (.int c_430), .val (.ref b581), .val (.ref wF), .val (.int (0 : Int32)), .val (.int (1 : Int32)), .val (.int (1 : Int32))] [])) _
                refine XS.aload X615.here hx rfl (hb hby at_298) rfl rfl ?_
                show Steps p.tables e below (T615.setTop (mkF m 300 #[.val (.int p0), .val (.int p1), .val (.int p2), .val (.int p3), .val (.int p4), .val (.int (1 : Int32)), .val (.int (4 : Int32)), .val (.int c_427), .val (.int c_428), .val (.int c_429), .val (.int c_430), .val (.ref b581), .val (.ref wF), .val (.int (0 : Int32)), .val (.int (1 : Int32)), .val (.int (1 : Int32))] [(.ref wF)])) _
                refine XS.aload X615.here hx rfl (hb hby at_300) rfl rfl ?_
                show Steps p.tables e below (T615.setTop (mkF m 302 #[.val (.int p0), .val (.int p1), .val (.int p2), .val (.int p3), .val (.int p4), .val (.int (1 : Int32)), .val (.int (4 : Int32)), .val (.int c_427), .val (.int c_428), .val (.int c_429), .val (.int c_430), .val (.ref b581), .val (.ref wF), .val (.int (0 : Int32)), .val (.int (1 : Int32)), .val (.int (1 : Int32))] [(.ref b581), (.ref wF)])) _
                refine st626.trans ?_
                show Steps p.tables e below (T626.setTop (mkF m 305 #[.val (.int p0), .val (.int p1), .val (.int p2), .val (.int p3), .val (.int p4), .val (.int (1 : Int32)), .val (.int (4 : Int32)), .val (.int c_427), .val (.int c_428), .val (.int c_429), .val (.int c_430), .val (.ref b581), .val (.ref wF), .val (.int (0 : Int32)), .val (.int (1 : Int32)), .val (.int (1 : Int32))] [(.int (1 : Int32))])) _
                refine XS.iload X626.here hx rfl (hb hby at_305) rfl ?_
                show Steps p.tables e below (T626.setTop (mkF m 307 #[.val (.int p0), .val (.int p1), .val (.int p2), .val (.int p3), .val (.int p4), .val (.int (1 : Int32)), .val (.int (4 : Int32)), .val (.int c_427), .val (.int c_428), .val (.int c_429), .val (.int c_430), .val (.ref b581), .val (.ref wF), .val (.int (0 : Int32)), .val (.int (1 : Int32)), .val (.int (1 : Int32))] [(.int (1 : Int32)), (.int (1 : Int32))])) _
                refine XS.icmpNo X626.here hx rfl (hb hby at_307) rfl (teq (by decide : (1 : Int32) = (1 : Int32))).2 ?_
                show Steps p.tables e below (T626.setTop (mkF m 310 #[.val (.int p0), .val (.int p1), .val (.int p2), .val (.int p3), .val (.int p4), .val (.int (1 : Int32)), .val (.int (4 : Int32)), .val (.int c_427), .val (.int c_428), .val (.int c_429), .val (.int c_430), .val (.ref b581), .val (.ref wF), .val (.int (0 : Int32)), .val (.int (1 : Int32)), .val (.int (1 : Int32))] [])) _
                refine XS.iconst X626.here hx rfl (hb hby at_310) ?_
                show Steps p.tables e below (T626.setTop (mkF m 311 #[.val (.int p0), .val (.int p1), .val (.int p2), .val (.int p3), .val (.int p4), .val (.int (1 : Int32)), .val (.int (4 : Int32)), .val (.int c_427), .val (.int c_428), .val (.int c_429), .val (.int c_430), .val (.ref b581), .val (.ref wF), .val (.int (0 : Int32)), .val (.int (1 : Int32)), .val (.int (1 : Int32))] [(.int (1 : Int32))])) _
                refine XS.goto X626.here hx rfl (pc0 := 311) (pc' := 315) rfl (hb hby at_311) (by decide) (by decide) ?_
                show Steps p.tables e below (T626.setTop (mkF m 315 #[.val (.int p0), .val (.int p1), .val (.int p2), .val (.int p3), .val (.int p4), .val (.int (1 : Int32)), .val (.int (4 : Int32)), .val (.int c_427), .val (.int c_428), .val (.int c_429), .val (.int c_430), .val (.ref b581), .val (.ref wF), .val (.int (0 : Int32)), .val (.int (1 : Int32)), .val (.int (1 : Int32))] [(.int (1 : Int32))])) _
                exact retN X626 hx (t := .boolean) Bd.returns (by simp) (hb hby at_315) hr
              · show Qrm0 Z p0 p1 p2 p3 p4 wF wR G1 h0 n0 _ T626.heap _
                exact ⟨rfl, (fun y hy => Nat.le_trans Z0 (N626 y hy)), KC630⟩
            · have Xo631 : Ext Z.heap T605.heap := own_extT X00 (own_ext KC611)
              have Fc632 := (own_staK Fc609 K605 (allS ⟨_, Fc606⟩ all0))
              have z634 := congrArg Array.size e615
              have Fc635 := (((((((H2.ext E581).ext E585).wr W590).wr W594).wr W598).wr W602).keep K605)
              obtain ⟨cq633, kq633, qa633, qb633, qc633⟩ := isOf hZ e615 Fc635
              obtain ⟨_, _, ⟨T633, L633, k633, n633⟩, -, Y633, hY633, gY633, ⟨Lc633, hQ633, l633, y633, z633⟩, st633⟩ := X615.virtualBackS hx (y := (⟨"com/example/task_relay/taskrelay/Scope", "allows", "(Ljava/lang/String;)Z"⟩ : MethodName)) (z := (⟨"com/example/task_relay/taskrelay/Scope", "allows", "(Ljava/lang/String;)Z"⟩ : MethodName)) hown (mvT hZ (hw _ (List.mem_of_getElem? (i := 15) rfl))) (mvT hZ (hw _ (List.mem_of_getElem? (i := 16) rfl))) (notFace_of_selects (args := #[]) (mvT hZ (hw _ (List.mem_of_getElem? (i := 18) rfl)))) (mvT hZ (hw _ (List.mem_of_getElem? (i := 18) rfl))) (mvT hZ (hw _ (List.mem_of_getElem? (i := 17) rfl))) (by decide) (backOfI (W := 0) (rmaf1 l Z a0 hw [] b581 wF G1 T605.heap h0.size (by omega) Fc614 Fc632 (hG1 : ¬ (G1 = (0 : Int32))) (hh58 : Jvm.Lit.constHeld Z "com/example/task_relay/taskrelay/Scope" 58) (hh60 : Jvm.Lit.constHeld Z "com/example/task_relay/taskrelay/Scope" 60) (Xo631 : Ext Z.heap T605.heap) (hcw : Jvm.Lit.compactW.before a0 Z = true)) hZ (hw _ (List.mem_of_getElem? (i := 19) rfl)) (hw _ (List.mem_of_getElem? (i := 13) rfl)) (by decide) (by decide)) qa633 qc633 (g := (mkF m 302 #[.val (.int p0), .val (.int p1), .val (.int p2), .val (.int p3), .val (.int p4), .val (.int (1 : Int32)), .val (.int (4 : Int32)), .val (.int c_427), .val (.int c_428), .val (.int c_429), .val (.int c_430), .val (.ref b581), .val (.ref wF), .val (.int (0 : Int32)), .val (.int (0 : Int32)), .val (.int (1 : Int32))] [(.ref b581), (.ref wF)])) rfl (by rw [hml]; rfl) (Steps.refl _) (argsL := [(.ref b581)]) (rest := []) (lenOf pd_2 rfl) rfl (by show 2 * 0 + _ ≤ _; exact Nat.le_of_eq rfl) (hb hby at_302) (fun _ Hw => ⟨rfl, e615, (by decide : 3 + 0 ≤ _), (by decide : 12 + 0 ≤ _), own_IBw hI Hw⟩)
              dsimp only [Pt.U, Pt.locs, Pt.cells, Pt.slots] at Y633 hY633 gY633 l633 y633 z633 st633 hQ633
              subst l633 y633 z633
              obtain ⟨X633, hS633, hZ633, hw633⟩ := rebS (s := s) (vm0 := s.vm) hS0 (by omega : h0.size ≤ T615.heap.size) Y633 hY633 gY633 hZ hown
              obtain ⟨rfl, N633q, K633⟩ := hQ633
              have N633 := Fr.app N605 N633q
              have z636 := K633.1
              have KC637 : Keep h0 T633.heap [] := KC611.trans K633 all0
              obtain ⟨fs, hr, hrun, hended, rE1, rE2, rE3, rE4⟩ := leaveW (s := s) (vm₁ := T633.vm) X633 hS633 (by omega : T633.heap.size ≤ T633.heap.size) (v := some (.int (1 : Int32))) (fun h => by rw [Bd.returns] at h; cases h)
              refine ⟨_, _, pre622 _ ?_, hrun, hended, _, _, rfl, ?_, rE1, rE2, rE3, rE4.mono (by decide) (by decide)⟩
              · show Steps p.tables e below (T615.setTop (mkF m 266 #[.val (.int p0), .val (.int p1), .val (.int p2), .val (.int p3), .val (.int p4), .val (.int (1 : Int32)), .val (.int (4 : Int32)), .val (.int c_427), .val (.int c_428), .val (.int c_429), .val (.int c_430), .val (.ref b581), .val (.ref wF), .val (.int (0 : Int32)), .unset, .unset] [(.int (68 : Int32)), (.int c_430)])) _
                refine XS.icmpYes X615.here hx rfl (pc0 := 266) (pc' := 273) rfl (hb hby at_266) rfl (feq (hc623 : ¬ (c_430 = (68 : Int32)))).2 (by decide) (by decide) ?_
                show Steps p.tables e below (T615.setTop (mkF m 273 #[.val (.int p0), .val (.int p1), .val (.int p2), .val (.int p3), .val (.int p4), .val (.int (1 : Int32)), .val (.int (4 : Int32)), .val (.int c_427), .val (.int c_428), .val (.int c_429), .val (.int c_430), .val (.ref b581), .val (.ref wF), .val (.int (0 : Int32)), .unset, .unset] [])) _
                refine XS.iconst X615.here hx rfl (hb hby at_273) ?_
                show Steps p.tables e below (T615.setTop (mkF m 274 #[.val (.int p0), .val (.int p1), .val (.int p2), .val (.int p3), .val (.int p4), .val (.int (1 : Int32)), .val (.int (4 : Int32)), .val (.int c_427), .val (.int c_428), .val (.int c_429), .val (.int c_430), .val (.ref b581), .val (.ref wF), .val (.int (0 : Int32)), .unset, .unset] [(.int (0 : Int32))])) _
                refine XS.istore X615.here hx rfl (hb hby at_274) rfl (l' := #[.val (.int p0), .val (.int p1), .val (.int p2), .val (.int p3), .val (.int p4), .val (.int (1 : Int32)), .val (.int (4 : Int32)), .val (.int c_427), .val (.int c_428), .val (.int c_429), .val (.int c_430), .val (.ref b581), .val (.ref wF), .val (.int (0 : Int32)), .val (.int (0 : Int32)), .unset]) rfl ?_
                show Steps p.tables e below (T615.setTop (mkF m 276 #[.val (.int p0), .val (.int p1), .val (.int p2), .val (.int p3), .val (.int p4), .val (.int (1 : Int32)), .val (.int (4 : Int32)), .val (.int c_427), .val (.int c_428), .val (.int c_429), .val (.int c_430), .val (.ref b581), .val (.ref wF), .val (.int (0 : Int32)), .val (.int (0 : Int32)), .unset] [])) _
                refine XS.iload X615.here hx rfl (hb hby at_276) rfl ?_
                show Steps p.tables e below (T615.setTop (mkF m 278 #[.val (.int p0), .val (.int p1), .val (.int p2), .val (.int p3), .val (.int p4), .val (.int (1 : Int32)), .val (.int (4 : Int32)), .val (.int c_427), .val (.int c_428), .val (.int c_429), .val (.int c_430), .val (.ref b581), .val (.ref wF), .val (.int (0 : Int32)), .val (.int (0 : Int32)), .unset] [(.int (1 : Int32))])) _
                refine XS.ifYes X615.here hx rfl (pc0 := 278) (pc' := 291) rfl (hb hby at_278) rfl ((if0 _ _).trans (feq (by decide : ¬ ((1 : Int32) = (0 : Int32)))).2) (by decide) (by decide) ?_
                show Steps p.tables e below (T615.setTop (mkF m 291 #[.val (.int p0), .val (.int p1), .val (.int p2), .val (.int p3), .val (.int p4), .val (.int (1 : Int32)), .val (.int (4 : Int32)), .val (.int c_427), .val (.int c_428), .val (.int c_429), .val (.int c_430), .val (.ref b581), .val (.ref wF), .val (.int (0 : Int32)), .val (.int (0 : Int32)), .unset] [])) _
                refine XS.iconst X615.here hx rfl (hb hby at_291) ?_
                show Steps p.tables e below (T615.setTop (mkF m 292 #[.val (.int p0), .val (.int p1), .val (.int p2), .val (.int p3), .val (.int p4), .val (.int (1 : Int32)), .val (.int (4 : Int32)), .val (.int c_427), .val (.int c_428), .val (.int c_429), .val (.int c_430), .val (.ref b581), .val (.ref wF), .val (.int (0 : Int32)), .val (.int (0 : Int32)), .unset] [(.int (1 : Int32))])) _
                refine XS.goto X615.here hx rfl (pc0 := 292) (pc' := 296) rfl (hb hby at_292) (by decide) (by decide) ?_
                show Steps p.tables e below (T615.setTop (mkF m 296 #[.val (.int p0), .val (.int p1), .val (.int p2), .val (.int p3), .val (.int p4), .val (.int (1 : Int32)), .val (.int (4 : Int32)), .val (.int c_427), .val (.int c_428), .val (.int c_429), .val (.int c_430), .val (.ref b581), .val (.ref wF), .val (.int (0 : Int32)), .val (.int (0 : Int32)), .unset] [(.int (1 : Int32))])) _
                refine XS.istore X615.here hx rfl (hb hby at_296) rfl (l' := #[.val (.int p0), .val (.int p1), .val (.int p2), .val (.int p3), .val (.int p4), .val (.int (1 : Int32)), .val (.int (4 : Int32)), .val (.int c_427), .val (.int c_428), .val (.int c_429), .val (.int c_430), .val (.ref b581), .val (.ref wF), .val (.int (0 : Int32)), .val (.int (0 : Int32)), .val (.int (1 : Int32))]) rfl ?_
                show Steps p.tables e below (T615.setTop (mkF m 298 #[.val (.int p0), .val (.int p1), .val (.int p2), .val (.int p3), .val (.int p4), .val (.int (1 : Int32)), .val (.int (4 : Int32)), .val (.int c_427), .val (.int c_428), .val (.int c_429), .val (.int c_430), .val (.ref b581), .val (.ref wF), .val (.int (0 : Int32)), .val (.int (0 : Int32)), .val (.int (1 : Int32))] [])) _
                refine XS.aload X615.here hx rfl (hb hby at_298) rfl rfl ?_
                show Steps p.tables e below (T615.setTop (mkF m 300 #[.val (.int p0), .val (.int p1), .val (.int p2), .val (.int p3), .val (.int p4), .val (.int (1 : Int32)), .val (.int (4 : Int32)), .val (.int c_427), .val (.int c_428), .val (.int c_429), .val (.int c_430), .val (.ref b581), .val (.ref wF), .val (.int (0 : Int32)), .val (.int (0 : Int32)), .val (.int (1 : Int32))] [(.ref wF)])) _
                refine XS.aload X615.here hx rfl (hb hby at_300) rfl rfl ?_
                show Steps p.tables e below (T615.setTop (mkF m 302 #[.val (.int p0), .val (.int p1), .val (.int p2), .val (.int p3), .val (.int p4), .val (.int (1 : Int32)), .val (.int (4 : Int32)), .val (.int c_427), .val (.int c_428), .val (.int c_429), .val (.int c_430), .val (.ref b581), .val (.ref wF), .val (.int (0 : Int32)), .val (.int (0 : Int32)), .val (.int (1 : Int32))] [(.ref b581), (.ref wF)])) _
                refine st633.trans ?_
                show Steps p.tables e below (T633.setTop (mkF m 305 #[.val (.int p0), .val (.int p1), .val (.int p2), .val (.int p3), .val (.int p4), .val (.int (1 : Int32)), .val (.int (4 : Int32)), .val (.int c_427), .val (.int c_428), .val (.int c_429), .val (.int c_430), .val (.ref b581), .val (.ref wF), .val (.int (0 : Int32)), .val (.int (0 : Int32)), .val (.int (1 : Int32))] [(.int (1 : Int32))])) _
                refine XS.iload X633.here hx rfl (hb hby at_305) rfl ?_
                show Steps p.tables e below (T633.setTop (mkF m 307 #[.val (.int p0), .val (.int p1), .val (.int p2), .val (.int p3), .val (.int p4), .val (.int (1 : Int32)), .val (.int (4 : Int32)), .val (.int c_427), .val (.int c_428), .val (.int c_429), .val (.int c_430), .val (.ref b581), .val (.ref wF), .val (.int (0 : Int32)), .val (.int (0 : Int32)), .val (.int (1 : Int32))] [(.int (1 : Int32)), (.int (1 : Int32))])) _
                refine XS.icmpNo X633.here hx rfl (hb hby at_307) rfl (teq (by decide : (1 : Int32) = (1 : Int32))).2 ?_
                show Steps p.tables e below (T633.setTop (mkF m 310 #[.val (.int p0), .val (.int p1), .val (.int p2), .val (.int p3), .val (.int p4), .val (.int (1 : Int32)), .val (.int (4 : Int32)), .val (.int c_427), .val (.int c_428), .val (.int c_429), .val (.int c_430), .val (.ref b581), .val (.ref wF), .val (.int (0 : Int32)), .val (.int (0 : Int32)), .val (.int (1 : Int32))] [])) _
                refine XS.iconst X633.here hx rfl (hb hby at_310) ?_
                show Steps p.tables e below (T633.setTop (mkF m 311 #[.val (.int p0), .val (.int p1), .val (.int p2), .val (.int p3), .val (.int p4), .val (.int (1 : Int32)), .val (.int (4 : Int32)), .val (.int c_427), .val (.int c_428), .val (.int c_429), .val (.int c_430), .val (.ref b581), .val (.ref wF), .val (.int (0 : Int32)), .val (.int (0 : Int32)), .val (.int (1 : Int32))] [(.int (1 : Int32))])) _
                refine XS.goto X633.here hx rfl (pc0 := 311) (pc' := 315) rfl (hb hby at_311) (by decide) (by decide) ?_
                show Steps p.tables e below (T633.setTop (mkF m 315 #[.val (.int p0), .val (.int p1), .val (.int p2), .val (.int p3), .val (.int p4), .val (.int (1 : Int32)), .val (.int (4 : Int32)), .val (.int c_427), .val (.int c_428), .val (.int c_429), .val (.int c_430), .val (.ref b581), .val (.ref wF), .val (.int (0 : Int32)), .val (.int (0 : Int32)), .val (.int (1 : Int32))] [(.int (1 : Int32))])) _
                exact retN X633 hx (t := .boolean) Bd.returns (by simp) (hb hby at_315) hr
              · show Qrm0 Z p0 p1 p2 p3 p4 wF wR G1 h0 n0 _ T633.heap _
                exact ⟨rfl, (fun y hy => Nat.le_trans Z0 (N633 y hy)), KC637⟩
          · have Xo638 : Ext Z.heap T605.heap := own_extT X00 (own_ext KC611)
            have Fc639 := (own_staK Fc609 K605 (allS ⟨_, Fc606⟩ all0))
            have z641 := congrArg Array.size e615
            have Fc642 := (((((((H2.ext E581).ext E585).wr W590).wr W594).wr W598).wr W602).keep K605)
            obtain ⟨cq640, kq640, qa640, qb640, qc640⟩ := isOf hZ e615 Fc642
            obtain ⟨_, _, ⟨T640, L640, k640, n640⟩, -, Y640, hY640, gY640, ⟨Lc640, hQ640, l640, y640, z640⟩, st640⟩ := X615.virtualBackS hx (y := (⟨"com/example/task_relay/taskrelay/Scope", "allows", "(Ljava/lang/String;)Z"⟩ : MethodName)) (z := (⟨"com/example/task_relay/taskrelay/Scope", "allows", "(Ljava/lang/String;)Z"⟩ : MethodName)) hown (mvT hZ (hw _ (List.mem_of_getElem? (i := 15) rfl))) (mvT hZ (hw _ (List.mem_of_getElem? (i := 16) rfl))) (notFace_of_selects (args := #[]) (mvT hZ (hw _ (List.mem_of_getElem? (i := 18) rfl)))) (mvT hZ (hw _ (List.mem_of_getElem? (i := 18) rfl))) (mvT hZ (hw _ (List.mem_of_getElem? (i := 17) rfl))) (by decide) (backOfI (W := 0) (rmaf1 l Z a0 hw [] b581 wF G1 T605.heap h0.size (by omega) Fc614 Fc639 (hG1 : ¬ (G1 = (0 : Int32))) (hh58 : Jvm.Lit.constHeld Z "com/example/task_relay/taskrelay/Scope" 58) (hh60 : Jvm.Lit.constHeld Z "com/example/task_relay/taskrelay/Scope" 60) (Xo638 : Ext Z.heap T605.heap) (hcw : Jvm.Lit.compactW.before a0 Z = true)) hZ (hw _ (List.mem_of_getElem? (i := 19) rfl)) (hw _ (List.mem_of_getElem? (i := 13) rfl)) (by decide) (by decide)) qa640 qc640 (g := (mkF m 302 #[.val (.int p0), .val (.int p1), .val (.int p2), .val (.int p3), .val (.int p4), .val (.int (1 : Int32)), .val (.int (4 : Int32)), .val (.int c_427), .val (.int c_428), .val (.int c_429), .val (.int c_430), .val (.ref b581), .val (.ref wF), .val (.int (0 : Int32)), .val (.int (0 : Int32)), .val (.int (1 : Int32))] [(.ref b581), (.ref wF)])) rfl (by rw [hml]; rfl) (Steps.refl _) (argsL := [(.ref b581)]) (rest := []) (lenOf pd_2 rfl) rfl (by show 2 * 0 + _ ≤ _; exact Nat.le_of_eq rfl) (hb hby at_302) (fun _ Hw => ⟨rfl, e615, (by decide : 3 + 0 ≤ _), (by decide : 12 + 0 ≤ _), own_IBw hI Hw⟩)
            dsimp only [Pt.U, Pt.locs, Pt.cells, Pt.slots] at Y640 hY640 gY640 l640 y640 z640 st640 hQ640
            subst l640 y640 z640
            obtain ⟨X640, hS640, hZ640, hw640⟩ := rebS (s := s) (vm0 := s.vm) hS0 (by omega : h0.size ≤ T615.heap.size) Y640 hY640 gY640 hZ hown
            obtain ⟨rfl, N640q, K640⟩ := hQ640
            have N640 := Fr.app N605 N640q
            have z643 := K640.1
            have KC644 : Keep h0 T640.heap [] := KC611.trans K640 all0
            obtain ⟨fs, hr, hrun, hended, rE1, rE2, rE3, rE4⟩ := leaveW (s := s) (vm₁ := T640.vm) X640 hS640 (by omega : T640.heap.size ≤ T640.heap.size) (v := some (.int (1 : Int32))) (fun h => by rw [Bd.returns] at h; cases h)
            refine ⟨_, _, pre620 _ ?_, hrun, hended, _, _, rfl, ?_, rE1, rE2, rE3, rE4.mono (by decide) (by decide)⟩
            · show Steps p.tables e below (T615.setTop (mkF m 259 #[.val (.int p0), .val (.int p1), .val (.int p2), .val (.int p3), .val (.int p4), .val (.int (1 : Int32)), .val (.int (4 : Int32)), .val (.int c_427), .val (.int c_428), .val (.int c_429), .val (.int c_430), .val (.ref b581), .val (.ref wF), .val (.int (0 : Int32)), .unset, .unset] [(.int (65 : Int32)), (.int c_429)])) _
              refine XS.icmpYes X615.here hx rfl (pc0 := 259) (pc' := 273) rfl (hb hby at_259) rfl (feq (hc621 : ¬ (c_429 = (65 : Int32)))).2 (by decide) (by decide) ?_
              show Steps p.tables e below (T615.setTop (mkF m 273 #[.val (.int p0), .val (.int p1), .val (.int p2), .val (.int p3), .val (.int p4), .val (.int (1 : Int32)), .val (.int (4 : Int32)), .val (.int c_427), .val (.int c_428), .val (.int c_429), .val (.int c_430), .val (.ref b581), .val (.ref wF), .val (.int (0 : Int32)), .unset, .unset] [])) _
              refine XS.iconst X615.here hx rfl (hb hby at_273) ?_
              show Steps p.tables e below (T615.setTop (mkF m 274 #[.val (.int p0), .val (.int p1), .val (.int p2), .val (.int p3), .val (.int p4), .val (.int (1 : Int32)), .val (.int (4 : Int32)), .val (.int c_427), .val (.int c_428), .val (.int c_429), .val (.int c_430), .val (.ref b581), .val (.ref wF), .val (.int (0 : Int32)), .unset, .unset] [(.int (0 : Int32))])) _
              refine XS.istore X615.here hx rfl (hb hby at_274) rfl (l' := #[.val (.int p0), .val (.int p1), .val (.int p2), .val (.int p3), .val (.int p4), .val (.int (1 : Int32)), .val (.int (4 : Int32)), .val (.int c_427), .val (.int c_428), .val (.int c_429), .val (.int c_430), .val (.ref b581), .val (.ref wF), .val (.int (0 : Int32)), .val (.int (0 : Int32)), .unset]) rfl ?_
              show Steps p.tables e below (T615.setTop (mkF m 276 #[.val (.int p0), .val (.int p1), .val (.int p2), .val (.int p3), .val (.int p4), .val (.int (1 : Int32)), .val (.int (4 : Int32)), .val (.int c_427), .val (.int c_428), .val (.int c_429), .val (.int c_430), .val (.ref b581), .val (.ref wF), .val (.int (0 : Int32)), .val (.int (0 : Int32)), .unset] [])) _
              refine XS.iload X615.here hx rfl (hb hby at_276) rfl ?_
              show Steps p.tables e below (T615.setTop (mkF m 278 #[.val (.int p0), .val (.int p1), .val (.int p2), .val (.int p3), .val (.int p4), .val (.int (1 : Int32)), .val (.int (4 : Int32)), .val (.int c_427), .val (.int c_428), .val (.int c_429), .val (.int c_430), .val (.ref b581), .val (.ref wF), .val (.int (0 : Int32)), .val (.int (0 : Int32)), .unset] [(.int (1 : Int32))])) _
              refine XS.ifYes X615.here hx rfl (pc0 := 278) (pc' := 291) rfl (hb hby at_278) rfl ((if0 _ _).trans (feq (by decide : ¬ ((1 : Int32) = (0 : Int32)))).2) (by decide) (by decide) ?_
              show Steps p.tables e below (T615.setTop (mkF m 291 #[.val (.int p0), .val (.int p1), .val (.int p2), .val (.int p3), .val (.int p4), .val (.int (1 : Int32)), .val (.int (4 : Int32)), .val (.int c_427), .val (.int c_428), .val (.int c_429), .val (.int c_430), .val (.ref b581), .val (.ref wF), .val (.int (0 : Int32)), .val (.int (0 : Int32)), .unset] [])) _
              refine XS.iconst X615.here hx rfl (hb hby at_291) ?_
              show Steps p.tables e below (T615.setTop (mkF m 292 #[.val (.int p0), .val (.int p1), .val (.int p2), .val (.int p3), .val (.int p4), .val (.int (1 : Int32)), .val (.int (4 : Int32)), .val (.int c_427), .val (.int c_428), .val (.int c_429), .val (.int c_430), .val (.ref b581), .val (.ref wF), .val (.int (0 : Int32)), .val (.int (0 : Int32)), .unset] [(.int (1 : Int32))])) _
              refine XS.goto X615.here hx rfl (pc0 := 292) (pc' := 296) rfl (hb hby at_292) (by decide) (by decide) ?_
              show Steps p.tables e below (T615.setTop (mkF m 296 #[.val (.int p0), .val (.int p1), .val (.int p2), .val (.int p3), .val (.int p4), .val (.int (1 : Int32)), .val (.int (4 : Int32)), .val (.int c_427), .val (.int c_428), .val (.int c_429), .val (.int c_430), .val (.ref b581), .val (.ref wF), .val (.int (0 : Int32)), .val (.int (0 : Int32)), .unset] [(.int (1 : Int32))])) _
              refine XS.istore X615.here hx rfl (hb hby at_296) rfl (l' := #[.val (.int p0), .val (.int p1), .val (.int p2), .val (.int p3), .val (.int p4), .val (.int (1 : Int32)), .val (.int (4 : Int32)), .val (.int c_427), .val (.int c_428), .val (.int c_429), .val (.int c_430), .val (.ref b581), .val (.ref wF), .val (.int (0 : Int32)), .val (.int (0 : Int32)), .val (.int (1 : Int32))]) rfl ?_
              show Steps p.tables e below (T615.setTop (mkF m 298 #[.val (.int p0), .val (.int p1), .val (.int p2), .val (.int p3), .val (.int p4), .val (.int (1 : Int32)), .val (.int (4 : Int32)), .val (.int c_427), .val (.int c_428), .val (.int c_429), .val (.int c_430), .val (.ref b581), .val (.ref wF), .val (.int (0 : Int32)), .val (.int (0 : Int32)), .val (.int (1 : Int32))] [])) _
              refine XS.aload X615.here hx rfl (hb hby at_298) rfl rfl ?_
              show Steps p.tables e below (T615.setTop (mkF m 300 #[.val (.int p0), .val (.int p1), .val (.int p2), .val (.int p3), .val (.int p4), .val (.int (1 : Int32)), .val (.int (4 : Int32)), .val (.int c_427), .val (.int c_428), .val (.int c_429), .val (.int c_430), .val (.ref b581), .val (.ref wF), .val (.int (0 : Int32)), .val (.int (0 : Int32)), .val (.int (1 : Int32))] [(.ref wF)])) _
              refine XS.aload X615.here hx rfl (hb hby at_300) rfl rfl ?_
              show Steps p.tables e below (T615.setTop (mkF m 302 #[.val (.int p0), .val (.int p1), .val (.int p2), .val (.int p3), .val (.int p4), .val (.int (1 : Int32)), .val (.int (4 : Int32)), .val (.int c_427), .val (.int c_428), .val (.int c_429), .val (.int c_430), .val (.ref b581), .val (.ref wF), .val (.int (0 : Int32)), .val (.int (0 : Int32)), .val (.int (1 : Int32))] [(.ref b581), (.ref wF)])) _
              refine st640.trans ?_
              show Steps p.tables e below (T640.setTop (mkF m 305 #[.val (.int p0), .val (.int p1), .val (.int p2), .val (.int p3), .val (.int p4), .val (.int (1 : Int32)), .val (.int (4 : Int32)), .val (.int c_427), .val (.int c_428), .val (.int c_429), .val (.int c_430), .val (.ref b581), .val (.ref wF), .val (.int (0 : Int32)), .val (.int (0 : Int32)), .val (.int (1 : Int32))] [(.int (1 : Int32))])) _
              refine XS.iload X640.here hx rfl (hb hby at_305) rfl ?_
              show Steps p.tables e below (T640.setTop (mkF m 307 #[.val (.int p0), .val (.int p1), .val (.int p2), .val (.int p3), .val (.int p4), .val (.int (1 : Int32)), .val (.int (4 : Int32)), .val (.int c_427), .val (.int c_428), .val (.int c_429), .val (.int c_430), .val (.ref b581), .val (.ref wF), .val (.int (0 : Int32)), .val (.int (0 : Int32)), .val (.int (1 : Int32))] [(.int (1 : Int32)), (.int (1 : Int32))])) _
              refine XS.icmpNo X640.here hx rfl (hb hby at_307) rfl (teq (by decide : (1 : Int32) = (1 : Int32))).2 ?_
              show Steps p.tables e below (T640.setTop (mkF m 310 #[.val (.int p0), .val (.int p1), .val (.int p2), .val (.int p3), .val (.int p4), .val (.int (1 : Int32)), .val (.int (4 : Int32)), .val (.int c_427), .val (.int c_428), .val (.int c_429), .val (.int c_430), .val (.ref b581), .val (.ref wF), .val (.int (0 : Int32)), .val (.int (0 : Int32)), .val (.int (1 : Int32))] [])) _
              refine XS.iconst X640.here hx rfl (hb hby at_310) ?_
              show Steps p.tables e below (T640.setTop (mkF m 311 #[.val (.int p0), .val (.int p1), .val (.int p2), .val (.int p3), .val (.int p4), .val (.int (1 : Int32)), .val (.int (4 : Int32)), .val (.int c_427), .val (.int c_428), .val (.int c_429), .val (.int c_430), .val (.ref b581), .val (.ref wF), .val (.int (0 : Int32)), .val (.int (0 : Int32)), .val (.int (1 : Int32))] [(.int (1 : Int32))])) _
              refine XS.goto X640.here hx rfl (pc0 := 311) (pc' := 315) rfl (hb hby at_311) (by decide) (by decide) ?_
              show Steps p.tables e below (T640.setTop (mkF m 315 #[.val (.int p0), .val (.int p1), .val (.int p2), .val (.int p3), .val (.int p4), .val (.int (1 : Int32)), .val (.int (4 : Int32)), .val (.int c_427), .val (.int c_428), .val (.int c_429), .val (.int c_430), .val (.ref b581), .val (.ref wF), .val (.int (0 : Int32)), .val (.int (0 : Int32)), .val (.int (1 : Int32))] [(.int (1 : Int32))])) _
              exact retN X640 hx (t := .boolean) Bd.returns (by simp) (hb hby at_315) hr
            · show Qrm0 Z p0 p1 p2 p3 p4 wF wR G1 h0 n0 _ T640.heap _
              exact ⟨rfl, (fun y hy => Nat.le_trans Z0 (N640 y hy)), KC644⟩
        · have Xo645 : Ext Z.heap T605.heap := own_extT X00 (own_ext KC611)
          have Fc646 := (own_staK Fc609 K605 (allS ⟨_, Fc606⟩ all0))
          have z648 := congrArg Array.size e615
          have Fc649 := (((((((H2.ext E581).ext E585).wr W590).wr W594).wr W598).wr W602).keep K605)
          obtain ⟨cq647, kq647, qa647, qb647, qc647⟩ := isOf hZ e615 Fc649
          obtain ⟨_, _, ⟨T647, L647, k647, n647⟩, -, Y647, hY647, gY647, ⟨Lc647, hQ647, l647, y647, z647⟩, st647⟩ := X615.virtualBackS hx (y := (⟨"com/example/task_relay/taskrelay/Scope", "allows", "(Ljava/lang/String;)Z"⟩ : MethodName)) (z := (⟨"com/example/task_relay/taskrelay/Scope", "allows", "(Ljava/lang/String;)Z"⟩ : MethodName)) hown (mvT hZ (hw _ (List.mem_of_getElem? (i := 15) rfl))) (mvT hZ (hw _ (List.mem_of_getElem? (i := 16) rfl))) (notFace_of_selects (args := #[]) (mvT hZ (hw _ (List.mem_of_getElem? (i := 18) rfl)))) (mvT hZ (hw _ (List.mem_of_getElem? (i := 18) rfl))) (mvT hZ (hw _ (List.mem_of_getElem? (i := 17) rfl))) (by decide) (backOfI (W := 0) (rmaf1 l Z a0 hw [] b581 wF G1 T605.heap h0.size (by omega) Fc614 Fc646 (hG1 : ¬ (G1 = (0 : Int32))) (hh58 : Jvm.Lit.constHeld Z "com/example/task_relay/taskrelay/Scope" 58) (hh60 : Jvm.Lit.constHeld Z "com/example/task_relay/taskrelay/Scope" 60) (Xo645 : Ext Z.heap T605.heap) (hcw : Jvm.Lit.compactW.before a0 Z = true)) hZ (hw _ (List.mem_of_getElem? (i := 19) rfl)) (hw _ (List.mem_of_getElem? (i := 13) rfl)) (by decide) (by decide)) qa647 qc647 (g := (mkF m 302 #[.val (.int p0), .val (.int p1), .val (.int p2), .val (.int p3), .val (.int p4), .val (.int (1 : Int32)), .val (.int (4 : Int32)), .val (.int c_427), .val (.int c_428), .val (.int c_429), .val (.int c_430), .val (.ref b581), .val (.ref wF), .val (.int (0 : Int32)), .val (.int (0 : Int32)), .val (.int (1 : Int32))] [(.ref b581), (.ref wF)])) rfl (by rw [hml]; rfl) (Steps.refl _) (argsL := [(.ref b581)]) (rest := []) (lenOf pd_2 rfl) rfl (by show 2 * 0 + _ ≤ _; exact Nat.le_of_eq rfl) (hb hby at_302) (fun _ Hw => ⟨rfl, e615, (by decide : 3 + 0 ≤ _), (by decide : 12 + 0 ≤ _), own_IBw hI Hw⟩)
          dsimp only [Pt.U, Pt.locs, Pt.cells, Pt.slots] at Y647 hY647 gY647 l647 y647 z647 st647 hQ647
          subst l647 y647 z647
          obtain ⟨X647, hS647, hZ647, hw647⟩ := rebS (s := s) (vm0 := s.vm) hS0 (by omega : h0.size ≤ T615.heap.size) Y647 hY647 gY647 hZ hown
          obtain ⟨rfl, N647q, K647⟩ := hQ647
          have N647 := Fr.app N605 N647q
          have z650 := K647.1
          have KC651 : Keep h0 T647.heap [] := KC611.trans K647 all0
          obtain ⟨fs, hr, hrun, hended, rE1, rE2, rE3, rE4⟩ := leaveW (s := s) (vm₁ := T647.vm) X647 hS647 (by omega : T647.heap.size ≤ T647.heap.size) (v := some (.int (1 : Int32))) (fun h => by rw [Bd.returns] at h; cases h)
          refine ⟨_, _, pre618 _ ?_, hrun, hended, _, _, rfl, ?_, rE1, rE2, rE3, rE4.mono (by decide) (by decide)⟩
          · show Steps p.tables e below (T615.setTop (mkF m 252 #[.val (.int p0), .val (.int p1), .val (.int p2), .val (.int p3), .val (.int p4), .val (.int (1 : Int32)), .val (.int (4 : Int32)), .val (.int c_427), .val (.int c_428), .val (.int c_429), .val (.int c_430), .val (.ref b581), .val (.ref wF), .val (.int (0 : Int32)), .unset, .unset] [(.int (69 : Int32)), (.int c_428)])) _
            refine XS.icmpYes X615.here hx rfl (pc0 := 252) (pc' := 273) rfl (hb hby at_252) rfl (feq (hc619 : ¬ (c_428 = (69 : Int32)))).2 (by decide) (by decide) ?_
            show Steps p.tables e below (T615.setTop (mkF m 273 #[.val (.int p0), .val (.int p1), .val (.int p2), .val (.int p3), .val (.int p4), .val (.int (1 : Int32)), .val (.int (4 : Int32)), .val (.int c_427), .val (.int c_428), .val (.int c_429), .val (.int c_430), .val (.ref b581), .val (.ref wF), .val (.int (0 : Int32)), .unset, .unset] [])) _
            refine XS.iconst X615.here hx rfl (hb hby at_273) ?_
            show Steps p.tables e below (T615.setTop (mkF m 274 #[.val (.int p0), .val (.int p1), .val (.int p2), .val (.int p3), .val (.int p4), .val (.int (1 : Int32)), .val (.int (4 : Int32)), .val (.int c_427), .val (.int c_428), .val (.int c_429), .val (.int c_430), .val (.ref b581), .val (.ref wF), .val (.int (0 : Int32)), .unset, .unset] [(.int (0 : Int32))])) _
            refine XS.istore X615.here hx rfl (hb hby at_274) rfl (l' := #[.val (.int p0), .val (.int p1), .val (.int p2), .val (.int p3), .val (.int p4), .val (.int (1 : Int32)), .val (.int (4 : Int32)), .val (.int c_427), .val (.int c_428), .val (.int c_429), .val (.int c_430), .val (.ref b581), .val (.ref wF), .val (.int (0 : Int32)), .val (.int (0 : Int32)), .unset]) rfl ?_
            show Steps p.tables e below (T615.setTop (mkF m 276 #[.val (.int p0), .val (.int p1), .val (.int p2), .val (.int p3), .val (.int p4), .val (.int (1 : Int32)), .val (.int (4 : Int32)), .val (.int c_427), .val (.int c_428), .val (.int c_429), .val (.int c_430), .val (.ref b581), .val (.ref wF), .val (.int (0 : Int32)), .val (.int (0 : Int32)), .unset] [])) _
            refine XS.iload X615.here hx rfl (hb hby at_276) rfl ?_
            show Steps p.tables e below (T615.setTop (mkF m 278 #[.val (.int p0), .val (.int p1), .val (.int p2), .val (.int p3), .val (.int p4), .val (.int (1 : Int32)), .val (.int (4 : Int32)), .val (.int c_427), .val (.int c_428), .val (.int c_429), .val (.int c_430), .val (.ref b581), .val (.ref wF), .val (.int (0 : Int32)), .val (.int (0 : Int32)), .unset] [(.int (1 : Int32))])) _
            refine XS.ifYes X615.here hx rfl (pc0 := 278) (pc' := 291) rfl (hb hby at_278) rfl ((if0 _ _).trans (feq (by decide : ¬ ((1 : Int32) = (0 : Int32)))).2) (by decide) (by decide) ?_
            show Steps p.tables e below (T615.setTop (mkF m 291 #[.val (.int p0), .val (.int p1), .val (.int p2), .val (.int p3), .val (.int p4), .val (.int (1 : Int32)), .val (.int (4 : Int32)), .val (.int c_427), .val (.int c_428), .val (.int c_429), .val (.int c_430), .val (.ref b581), .val (.ref wF), .val (.int (0 : Int32)), .val (.int (0 : Int32)), .unset] [])) _
            refine XS.iconst X615.here hx rfl (hb hby at_291) ?_
            show Steps p.tables e below (T615.setTop (mkF m 292 #[.val (.int p0), .val (.int p1), .val (.int p2), .val (.int p3), .val (.int p4), .val (.int (1 : Int32)), .val (.int (4 : Int32)), .val (.int c_427), .val (.int c_428), .val (.int c_429), .val (.int c_430), .val (.ref b581), .val (.ref wF), .val (.int (0 : Int32)), .val (.int (0 : Int32)), .unset] [(.int (1 : Int32))])) _
            refine XS.goto X615.here hx rfl (pc0 := 292) (pc' := 296) rfl (hb hby at_292) (by decide) (by decide) ?_
            show Steps p.tables e below (T615.setTop (mkF m 296 #[.val (.int p0), .val (.int p1), .val (.int p2), .val (.int p3), .val (.int p4), .val (.int (1 : Int32)), .val (.int (4 : Int32)), .val (.int c_427), .val (.int c_428), .val (.int c_429), .val (.int c_430), .val (.ref b581), .val (.ref wF), .val (.int (0 : Int32)), .val (.int (0 : Int32)), .unset] [(.int (1 : Int32))])) _
            refine XS.istore X615.here hx rfl (hb hby at_296) rfl (l' := #[.val (.int p0), .val (.int p1), .val (.int p2), .val (.int p3), .val (.int p4), .val (.int (1 : Int32)), .val (.int (4 : Int32)), .val (.int c_427), .val (.int c_428), .val (.int c_429), .val (.int c_430), .val (.ref b581), .val (.ref wF), .val (.int (0 : Int32)), .val (.int (0 : Int32)), .val (.int (1 : Int32))]) rfl ?_
            show Steps p.tables e below (T615.setTop (mkF m 298 #[.val (.int p0), .val (.int p1), .val (.int p2), .val (.int p3), .val (.int p4), .val (.int (1 : Int32)), .val (.int (4 : Int32)), .val (.int c_427), .val (.int c_428), .val (.int c_429), .val (.int c_430), .val (.ref b581), .val (.ref wF), .val (.int (0 : Int32)), .val (.int (0 : Int32)), .val (.int (1 : Int32))] [])) _
            refine XS.aload X615.here hx rfl (hb hby at_298) rfl rfl ?_
            show Steps p.tables e below (T615.setTop (mkF m 300 #[.val (.int p0), .val (.int p1), .val (.int p2), .val (.int p3), .val (.int p4), .val (.int (1 : Int32)), .val (.int (4 : Int32)), .val (.int c_427), .val (.int c_428), .val (.int c_429), .val (.int c_430), .val (.ref b581), .val (.ref wF), .val (.int (0 : Int32)), .val (.int (0 : Int32)), .val (.int (1 : Int32))] [(.ref wF)])) _
            refine XS.aload X615.here hx rfl (hb hby at_300) rfl rfl ?_
            show Steps p.tables e below (T615.setTop (mkF m 302 #[.val (.int p0), .val (.int p1), .val (.int p2), .val (.int p3), .val (.int p4), .val (.int (1 : Int32)), .val (.int (4 : Int32)), .val (.int c_427), .val (.int c_428), .val (.int c_429), .val (.int c_430), .val (.ref b581), .val (.ref wF), .val (.int (0 : Int32)), .val (.int (0 : Int32)), .val (.int (1 : Int32))] [(.ref b581), (.ref wF)])) _
            refine st647.trans ?_
            show Steps p.tables e below (T647.setTop (mkF m 305 #[.val (.int p0), .val (.int p1), .val (.int p2), .val (.int p3), .val (.int p4), .val (.int (1 : Int32)), .val (.int (4 : Int32)), .val (.int c_427), .val (.int c_428), .val (.int c_429), .val (.int c_430), .val (.ref b581), .val (.ref wF), .val (.int (0 : Int32)), .val (.int (0 : Int32)), .val (.int (1 : Int32))] [(.int (1 : Int32))])) _
            refine XS.iload X647.here hx rfl (hb hby at_305) rfl ?_
            show Steps p.tables e below (T647.setTop (mkF m 307 #[.val (.int p0), .val (.int p1), .val (.int p2), .val (.int p3), .val (.int p4), .val (.int (1 : Int32)), .val (.int (4 : Int32)), .val (.int c_427), .val (.int c_428), .val (.int c_429), .val (.int c_430), .val (.ref b581), .val (.ref wF), .val (.int (0 : Int32)), .val (.int (0 : Int32)), .val (.int (1 : Int32))] [(.int (1 : Int32)), (.int (1 : Int32))])) _
            refine XS.icmpNo X647.here hx rfl (hb hby at_307) rfl (teq (by decide : (1 : Int32) = (1 : Int32))).2 ?_
            show Steps p.tables e below (T647.setTop (mkF m 310 #[.val (.int p0), .val (.int p1), .val (.int p2), .val (.int p3), .val (.int p4), .val (.int (1 : Int32)), .val (.int (4 : Int32)), .val (.int c_427), .val (.int c_428), .val (.int c_429), .val (.int c_430), .val (.ref b581), .val (.ref wF), .val (.int (0 : Int32)), .val (.int (0 : Int32)), .val (.int (1 : Int32))] [])) _
            refine XS.iconst X647.here hx rfl (hb hby at_310) ?_
            show Steps p.tables e below (T647.setTop (mkF m 311 #[.val (.int p0), .val (.int p1), .val (.int p2), .val (.int p3), .val (.int p4), .val (.int (1 : Int32)), .val (.int (4 : Int32)), .val (.int c_427), .val (.int c_428), .val (.int c_429), .val (.int c_430), .val (.ref b581), .val (.ref wF), .val (.int (0 : Int32)), .val (.int (0 : Int32)), .val (.int (1 : Int32))] [(.int (1 : Int32))])) _
            refine XS.goto X647.here hx rfl (pc0 := 311) (pc' := 315) rfl (hb hby at_311) (by decide) (by decide) ?_
            show Steps p.tables e below (T647.setTop (mkF m 315 #[.val (.int p0), .val (.int p1), .val (.int p2), .val (.int p3), .val (.int p4), .val (.int (1 : Int32)), .val (.int (4 : Int32)), .val (.int c_427), .val (.int c_428), .val (.int c_429), .val (.int c_430), .val (.ref b581), .val (.ref wF), .val (.int (0 : Int32)), .val (.int (0 : Int32)), .val (.int (1 : Int32))] [(.int (1 : Int32))])) _
            exact retN X647 hx (t := .boolean) Bd.returns (by simp) (hb hby at_315) hr
          · show Qrm0 Z p0 p1 p2 p3 p4 wF wR G1 h0 n0 _ T647.heap _
            exact ⟨rfl, (fun y hy => Nat.le_trans Z0 (N647 y hy)), KC651⟩
      · have Xo652 : Ext Z.heap T605.heap := own_extT X00 (own_ext KC611)
        have Fc653 := (own_staK Fc609 K605 (allS ⟨_, Fc606⟩ all0))
        have z655 := congrArg Array.size e615
        have Fc656 := (((((((H2.ext E581).ext E585).wr W590).wr W594).wr W598).wr W602).keep K605)
        obtain ⟨cq654, kq654, qa654, qb654, qc654⟩ := isOf hZ e615 Fc656
        obtain ⟨_, _, ⟨T654, L654, k654, n654⟩, -, Y654, hY654, gY654, ⟨Lc654, hQ654, l654, y654, z654⟩, st654⟩ := X615.virtualBackS hx (y := (⟨"com/example/task_relay/taskrelay/Scope", "allows", "(Ljava/lang/String;)Z"⟩ : MethodName)) (z := (⟨"com/example/task_relay/taskrelay/Scope", "allows", "(Ljava/lang/String;)Z"⟩ : MethodName)) hown (mvT hZ (hw _ (List.mem_of_getElem? (i := 15) rfl))) (mvT hZ (hw _ (List.mem_of_getElem? (i := 16) rfl))) (notFace_of_selects (args := #[]) (mvT hZ (hw _ (List.mem_of_getElem? (i := 18) rfl)))) (mvT hZ (hw _ (List.mem_of_getElem? (i := 18) rfl))) (mvT hZ (hw _ (List.mem_of_getElem? (i := 17) rfl))) (by decide) (backOfI (W := 0) (rmaf1 l Z a0 hw [] b581 wF G1 T605.heap h0.size (by omega) Fc614 Fc653 (hG1 : ¬ (G1 = (0 : Int32))) (hh58 : Jvm.Lit.constHeld Z "com/example/task_relay/taskrelay/Scope" 58) (hh60 : Jvm.Lit.constHeld Z "com/example/task_relay/taskrelay/Scope" 60) (Xo652 : Ext Z.heap T605.heap) (hcw : Jvm.Lit.compactW.before a0 Z = true)) hZ (hw _ (List.mem_of_getElem? (i := 19) rfl)) (hw _ (List.mem_of_getElem? (i := 13) rfl)) (by decide) (by decide)) qa654 qc654 (g := (mkF m 302 #[.val (.int p0), .val (.int p1), .val (.int p2), .val (.int p3), .val (.int p4), .val (.int (1 : Int32)), .val (.int (4 : Int32)), .val (.int c_427), .val (.int c_428), .val (.int c_429), .val (.int c_430), .val (.ref b581), .val (.ref wF), .val (.int (0 : Int32)), .val (.int (0 : Int32)), .val (.int (1 : Int32))] [(.ref b581), (.ref wF)])) rfl (by rw [hml]; rfl) (Steps.refl _) (argsL := [(.ref b581)]) (rest := []) (lenOf pd_2 rfl) rfl (by show 2 * 0 + _ ≤ _; exact Nat.le_of_eq rfl) (hb hby at_302) (fun _ Hw => ⟨rfl, e615, (by decide : 3 + 0 ≤ _), (by decide : 12 + 0 ≤ _), own_IBw hI Hw⟩)
        dsimp only [Pt.U, Pt.locs, Pt.cells, Pt.slots] at Y654 hY654 gY654 l654 y654 z654 st654 hQ654
        subst l654 y654 z654
        obtain ⟨X654, hS654, hZ654, hw654⟩ := rebS (s := s) (vm0 := s.vm) hS0 (by omega : h0.size ≤ T615.heap.size) Y654 hY654 gY654 hZ hown
        obtain ⟨rfl, N654q, K654⟩ := hQ654
        have N654 := Fr.app N605 N654q
        have z657 := K654.1
        have KC658 : Keep h0 T654.heap [] := KC611.trans K654 all0
        obtain ⟨fs, hr, hrun, hended, rE1, rE2, rE3, rE4⟩ := leaveW (s := s) (vm₁ := T654.vm) X654 hS654 (by omega : T654.heap.size ≤ T654.heap.size) (v := some (.int (1 : Int32))) (fun h => by rw [Bd.returns] at h; cases h)
        refine ⟨_, _, pre616 _ ?_, hrun, hended, _, _, rfl, ?_, rE1, rE2, rE3, rE4.mono (by decide) (by decide)⟩
        · show Steps p.tables e below (T615.setTop (mkF m 245 #[.val (.int p0), .val (.int p1), .val (.int p2), .val (.int p3), .val (.int p4), .val (.int (1 : Int32)), .val (.int (4 : Int32)), .val (.int c_427), .val (.int c_428), .val (.int c_429), .val (.int c_430), .val (.ref b581), .val (.ref wF), .val (.int (0 : Int32)), .unset, .unset] [(.int (72 : Int32)), (.int c_427)])) _
          refine XS.icmpYes X615.here hx rfl (pc0 := 245) (pc' := 273) rfl (hb hby at_245) rfl (feq (hc617 : ¬ (c_427 = (72 : Int32)))).2 (by decide) (by decide) ?_
          show Steps p.tables e below (T615.setTop (mkF m 273 #[.val (.int p0), .val (.int p1), .val (.int p2), .val (.int p3), .val (.int p4), .val (.int (1 : Int32)), .val (.int (4 : Int32)), .val (.int c_427), .val (.int c_428), .val (.int c_429), .val (.int c_430), .val (.ref b581), .val (.ref wF), .val (.int (0 : Int32)), .unset, .unset] [])) _
          refine XS.iconst X615.here hx rfl (hb hby at_273) ?_
          show Steps p.tables e below (T615.setTop (mkF m 274 #[.val (.int p0), .val (.int p1), .val (.int p2), .val (.int p3), .val (.int p4), .val (.int (1 : Int32)), .val (.int (4 : Int32)), .val (.int c_427), .val (.int c_428), .val (.int c_429), .val (.int c_430), .val (.ref b581), .val (.ref wF), .val (.int (0 : Int32)), .unset, .unset] [(.int (0 : Int32))])) _
          refine XS.istore X615.here hx rfl (hb hby at_274) rfl (l' := #[.val (.int p0), .val (.int p1), .val (.int p2), .val (.int p3), .val (.int p4), .val (.int (1 : Int32)), .val (.int (4 : Int32)), .val (.int c_427), .val (.int c_428), .val (.int c_429), .val (.int c_430), .val (.ref b581), .val (.ref wF), .val (.int (0 : Int32)), .val (.int (0 : Int32)), .unset]) rfl ?_
          show Steps p.tables e below (T615.setTop (mkF m 276 #[.val (.int p0), .val (.int p1), .val (.int p2), .val (.int p3), .val (.int p4), .val (.int (1 : Int32)), .val (.int (4 : Int32)), .val (.int c_427), .val (.int c_428), .val (.int c_429), .val (.int c_430), .val (.ref b581), .val (.ref wF), .val (.int (0 : Int32)), .val (.int (0 : Int32)), .unset] [])) _
          refine XS.iload X615.here hx rfl (hb hby at_276) rfl ?_
          show Steps p.tables e below (T615.setTop (mkF m 278 #[.val (.int p0), .val (.int p1), .val (.int p2), .val (.int p3), .val (.int p4), .val (.int (1 : Int32)), .val (.int (4 : Int32)), .val (.int c_427), .val (.int c_428), .val (.int c_429), .val (.int c_430), .val (.ref b581), .val (.ref wF), .val (.int (0 : Int32)), .val (.int (0 : Int32)), .unset] [(.int (1 : Int32))])) _
          refine XS.ifYes X615.here hx rfl (pc0 := 278) (pc' := 291) rfl (hb hby at_278) rfl ((if0 _ _).trans (feq (by decide : ¬ ((1 : Int32) = (0 : Int32)))).2) (by decide) (by decide) ?_
          show Steps p.tables e below (T615.setTop (mkF m 291 #[.val (.int p0), .val (.int p1), .val (.int p2), .val (.int p3), .val (.int p4), .val (.int (1 : Int32)), .val (.int (4 : Int32)), .val (.int c_427), .val (.int c_428), .val (.int c_429), .val (.int c_430), .val (.ref b581), .val (.ref wF), .val (.int (0 : Int32)), .val (.int (0 : Int32)), .unset] [])) _
          refine XS.iconst X615.here hx rfl (hb hby at_291) ?_
          show Steps p.tables e below (T615.setTop (mkF m 292 #[.val (.int p0), .val (.int p1), .val (.int p2), .val (.int p3), .val (.int p4), .val (.int (1 : Int32)), .val (.int (4 : Int32)), .val (.int c_427), .val (.int c_428), .val (.int c_429), .val (.int c_430), .val (.ref b581), .val (.ref wF), .val (.int (0 : Int32)), .val (.int (0 : Int32)), .unset] [(.int (1 : Int32))])) _
          refine XS.goto X615.here hx rfl (pc0 := 292) (pc' := 296) rfl (hb hby at_292) (by decide) (by decide) ?_
          show Steps p.tables e below (T615.setTop (mkF m 296 #[.val (.int p0), .val (.int p1), .val (.int p2), .val (.int p3), .val (.int p4), .val (.int (1 : Int32)), .val (.int (4 : Int32)), .val (.int c_427), .val (.int c_428), .val (.int c_429), .val (.int c_430), .val (.ref b581), .val (.ref wF), .val (.int (0 : Int32)), .val (.int (0 : Int32)), .unset] [(.int (1 : Int32))])) _
          refine XS.istore X615.here hx rfl (hb hby at_296) rfl (l' := #[.val (.int p0), .val (.int p1), .val (.int p2), .val (.int p3), .val (.int p4), .val (.int (1 : Int32)), .val (.int (4 : Int32)), .val (.int c_427), .val (.int c_428), .val (.int c_429), .val (.int c_430), .val (.ref b581), .val (.ref wF), .val (.int (0 : Int32)), .val (.int (0 : Int32)), .val (.int (1 : Int32))]) rfl ?_
          show Steps p.tables e below (T615.setTop (mkF m 298 #[.val (.int p0), .val (.int p1), .val (.int p2), .val (.int p3), .val (.int p4), .val (.int (1 : Int32)), .val (.int (4 : Int32)), .val (.int c_427), .val (.int c_428), .val (.int c_429), .val (.int c_430), .val (.ref b581), .val (.ref wF), .val (.int (0 : Int32)), .val (.int (0 : Int32)), .val (.int (1 : Int32))] [])) _
          refine XS.aload X615.here hx rfl (hb hby at_298) rfl rfl ?_
          show Steps p.tables e below (T615.setTop (mkF m 300 #[.val (.int p0), .val (.int p1), .val (.int p2), .val (.int p3), .val (.int p4), .val (.int (1 : Int32)), .val (.int (4 : Int32)), .val (.int c_427), .val (.int c_428), .val (.int c_429), .val (.int c_430), .val (.ref b581), .val (.ref wF), .val (.int (0 : Int32)), .val (.int (0 : Int32)), .val (.int (1 : Int32))] [(.ref wF)])) _
          refine XS.aload X615.here hx rfl (hb hby at_300) rfl rfl ?_
          show Steps p.tables e below (T615.setTop (mkF m 302 #[.val (.int p0), .val (.int p1), .val (.int p2), .val (.int p3), .val (.int p4), .val (.int (1 : Int32)), .val (.int (4 : Int32)), .val (.int c_427), .val (.int c_428), .val (.int c_429), .val (.int c_430), .val (.ref b581), .val (.ref wF), .val (.int (0 : Int32)), .val (.int (0 : Int32)), .val (.int (1 : Int32))] [(.ref b581), (.ref wF)])) _
          refine st654.trans ?_
          show Steps p.tables e below (T654.setTop (mkF m 305 #[.val (.int p0), .val (.int p1), .val (.int p2), .val (.int p3), .val (.int p4), .val (.int (1 : Int32)), .val (.int (4 : Int32)), .val (.int c_427), .val (.int c_428), .val (.int c_429), .val (.int c_430), .val (.ref b581), .val (.ref wF), .val (.int (0 : Int32)), .val (.int (0 : Int32)), .val (.int (1 : Int32))] [(.int (1 : Int32))])) _
          refine XS.iload X654.here hx rfl (hb hby at_305) rfl ?_
          show Steps p.tables e below (T654.setTop (mkF m 307 #[.val (.int p0), .val (.int p1), .val (.int p2), .val (.int p3), .val (.int p4), .val (.int (1 : Int32)), .val (.int (4 : Int32)), .val (.int c_427), .val (.int c_428), .val (.int c_429), .val (.int c_430), .val (.ref b581), .val (.ref wF), .val (.int (0 : Int32)), .val (.int (0 : Int32)), .val (.int (1 : Int32))] [(.int (1 : Int32)), (.int (1 : Int32))])) _
          refine XS.icmpNo X654.here hx rfl (hb hby at_307) rfl (teq (by decide : (1 : Int32) = (1 : Int32))).2 ?_
          show Steps p.tables e below (T654.setTop (mkF m 310 #[.val (.int p0), .val (.int p1), .val (.int p2), .val (.int p3), .val (.int p4), .val (.int (1 : Int32)), .val (.int (4 : Int32)), .val (.int c_427), .val (.int c_428), .val (.int c_429), .val (.int c_430), .val (.ref b581), .val (.ref wF), .val (.int (0 : Int32)), .val (.int (0 : Int32)), .val (.int (1 : Int32))] [])) _
          refine XS.iconst X654.here hx rfl (hb hby at_310) ?_
          show Steps p.tables e below (T654.setTop (mkF m 311 #[.val (.int p0), .val (.int p1), .val (.int p2), .val (.int p3), .val (.int p4), .val (.int (1 : Int32)), .val (.int (4 : Int32)), .val (.int c_427), .val (.int c_428), .val (.int c_429), .val (.int c_430), .val (.ref b581), .val (.ref wF), .val (.int (0 : Int32)), .val (.int (0 : Int32)), .val (.int (1 : Int32))] [(.int (1 : Int32))])) _
          refine XS.goto X654.here hx rfl (pc0 := 311) (pc' := 315) rfl (hb hby at_311) (by decide) (by decide) ?_
          show Steps p.tables e below (T654.setTop (mkF m 315 #[.val (.int p0), .val (.int p1), .val (.int p2), .val (.int p3), .val (.int p4), .val (.int (1 : Int32)), .val (.int (4 : Int32)), .val (.int c_427), .val (.int c_428), .val (.int c_429), .val (.int c_430), .val (.ref b581), .val (.ref wF), .val (.int (0 : Int32)), .val (.int (0 : Int32)), .val (.int (1 : Int32))] [(.int (1 : Int32))])) _
          exact retN X654 hx (t := .boolean) Bd.returns (by simp) (hb hby at_315) hr
        · show Qrm0 Z p0 p1 p2 p3 p4 wF wR G1 h0 n0 _ T654.heap _
          exact ⟨rfl, (fun y hy => Nat.le_trans Z0 (N654 y hy)), KC658⟩
set_option maxRecDepth 65536 in
set_option maxHeartbeats 40000000 in
theorem comes_1 {Post : Tables → Env → Array Value → State → Outcome → State → Prop} (hpost : ∀ tb e args s v u, (limb_1_1.after args s (.returned v) u = true ∧ limb_1_2.after args s (.returned v) u = true ∧ True) → ReturnedEndW s (.returned v) u (Jvm.fieldLocs frame_1_writes args s ++ Jvm.arrayLocs frame_1_arrays args s ++ Jvm.staticLocs frame_1_statics s) 24 3200 → Post tb e args s (.returned v) u) :
    ArmFor flags0 classFile x code maxLocals ret World_1 tables_1 room_1 Calls_1 rest_1 Pre_1 Post := by
  intro l hfl _ _ p e ha hc hk s m args below hf hA hF happ hP
  obtain ⟨hcalls, hrest, hpre⟩ := hP
  obtain ⟨-, -, -, hnamed, -, -, -, hat⟩ := (Spec.applies_iff hf).mp happ
  obtain ⟨hg, hn⟩ := and_e (Cond.before_iff.mp (show (Jvm.Cond.and given_1 narrow_1).before args s = true from hpre))
  obtain ⟨gg0, gr0⟩ := and_e hg
  obtain ⟨gg1, gr1⟩ := and_e gr0
  obtain ⟨gg2, gr2⟩ := and_e gr1
  obtain ⟨gg3, gr3⟩ := and_e gr2
  obtain ⟨gg4, gg5⟩ := and_e gr3
  obtain ⟨w0, w1, w2, w3, w4, rfl⟩ : ∃ w0 w1 w2 w3 w4 : Value, args = #[w0, w1, w2, w3, w4] := by
    have hs : args.size = 5 := by simpa [Cond.value, given_1] using gg0
    obtain ⟨L⟩ := args
    match L, hs with
    | [w0, w1, w2, w3, w4], _ => exact ⟨w0, w1, w2, w3, w4, rfl⟩
  have hw := fun d (hd : d ∈ tables_1) => atoms_spec (ws := Jvm.Cond.code x code maxLocals ret :: tables_1) hat d (List.mem_cons_of_mem _ hd)
  have hfit : Fit s := fun {y c} hc i hi => by
    obtain ⟨ha, rfl⟩ := Array.getElem?_eq_some_iff.mp hc
    have q := List.all_eq_true.mp ((Array.all_eq_true_iff_forall_mem.mp hF) _ (Array.getElem_mem ha)) i (List.mem_range.mpr hi)
    simpa [Array.getElem?_eq_getElem hi] using q
  obtain ⟨hsets, hown0⟩ := atoms_of _ (rest_1_c_eq ▸ (show rest_1_c.before _ s = true from hrest))
  obtain ⟨i0, ei0⟩ := is_v gg1
  obtain rfl : w0 = (.int i0) := Option.some.inj ei0
  obtain ⟨i1, ei1⟩ := is_v gg2
  obtain rfl : w1 = (.int i1) := Option.some.inj ei1
  obtain ⟨i2, ei2⟩ := is_v gg3
  obtain rfl : w2 = (.int i2) := Option.some.inj ei2
  obtain ⟨i3, ei3⟩ := is_v gg4
  obtain rfl : w3 = (.int i3) := Option.some.inj ei3
  obtain ⟨i4, ei4⟩ := is_v gg5
  obtain rfl : w4 = (.int i4) := Option.some.inj ei4
  unfold narrow_1 at hn
  obtain ⟨nw0, nr0⟩ := and_e hn
  obtain ⟨nw1, nr1⟩ := and_e nr0
  obtain ⟨nw2, nw3⟩ := and_e nr1
  obtain ⟨a_READ, v_READ⟩ := exa_v nw0
  have E_READ := Exa.start v_READ nw0
  have S_READ := Sta.start v_READ (Or.inr ⟨(hw _ (List.mem_of_getElem? (i := 13) rfl)), (hw _ (List.mem_of_getElem? (i := 14) rfl))⟩)
  obtain ⟨a_FULL, v_FULL⟩ := exa_v nw1
  have E_FULL := Exa.start v_FULL nw1
  have S_FULL := Sta.start v_FULL (Or.inr ⟨(hw _ (List.mem_of_getElem? (i := 13) rfl)), (hw _ (List.mem_of_getElem? (i := 21) rfl))⟩)
  have F_READ_ordinal := Fld.start ((fld_at v_READ).symm.trans (own_eqI nw2))
  have F_FULL_ordinal := Fld.start ((fld_at v_FULL).symm.trans (own_eqI nw3))
  obtain ⟨G1, vG1⟩ := is_v (Cond.before_iff.mp (hsets _ (List.mem_of_getElem? (i := 1) rfl)))
  have S_COMPACT := Sta.start vG1 (Or.inl (hsets _ (List.mem_of_getElem? (i := 0) rfl)))
  have hG1 : ¬ (G1 = (0 : Int32)) := gotF (Cond.eq_ints vG1 (Term.int_eval 0)) (not_v (Cond.before_iff.mp (hsets _ (List.mem_of_getElem? (i := 2) rfl))))
  have hne : ¬ (a_READ = a_FULL) := fun k => by rw [k] at F_READ_ordinal; exact F_READ_ordinal.ne F_FULL_ordinal (by decide) rfl
  have hcw : Jvm.Lit.compactW.before _ s = true := hsets _ (List.mem_of_getElem? (i := 2) rfl)
  have hH := hcalls.1
  obtain ⟨n, o, h1, h2, h3, _, L, rfl, ⟨rfl, N, -⟩, hq⟩ := rm0 l s _ hw tables_1 i0 i1 i2 i3 i4 a_FULL a_READ G1 s.heap s.heap.size (Nat.le_refl _) S_FULL S_READ E_FULL E_READ S_COMPACT hG1 (hH _ (List.mem_of_getElem? (i := 0) rfl)) (hH _ (List.mem_of_getElem? (i := 1) rfl)) (hH _ (List.mem_of_getElem? (i := 2) rfl)) ⟨Nat.le_refl _, fun _ _ k => k⟩ hcw hne p e ha hc hk s m _ below hf ((Spec.applies_iff_loose hf).mp happ).1 ⟨rfl, State.Warmed39.refl s, rfl, IB.start⟩ trivial
  exact ⟨n, _, h1, h2, h3, hpost _ _ _ _ _ _ ⟨Cond.after_iff.mpr rfl, Cond.after_iff.mpr (eq_i res_at (Term.int_eval (1)) rfl), trivial⟩ ⟨hq.1, hq.2.1, hq.2.2.1, (hq.2.2.2.sift fun y hy => Or.inr (N y hy)).mono (by decide) (by decide)⟩⟩
theorem main_1_1 : Claimed_1_1 := comes_1 fun _ _ _ _ _ _ h hF => ⟨h.1, hF⟩
theorem main_1_2 : Claimed_1_2 := comes_1 fun _ _ _ _ _ _ h hF => ⟨h.2.1, hF⟩
end Jvm.Pilot.@@N@@
namespace Jvm.Pilot.@@N@@
open Jvm Jvm.ClassFile Sem Op Lib Jvm.Free Jvm.Stand Jvm.Pilot.@@N@@.Jvm.D
/-! MADE BY PROGRAM (witnessworld.py) out of the Statement's table words and the real class files: 21 classes; the members and pool entries that the words name. The judged class is class 1, her method 1. -/
namespace start1
open Jvm.ClassFile
def u (s : String) : CpInfo := .utf8 (stringToUtf16 s)
/-- a pool by its gaps: so many unusable entries, then the entry; so many at the end -/
def gap : Nat → List CpInfo → List CpInfo
  | 0, r => r
  | n + 1, r => .unusable :: gap n r
def poolList (es : List (Nat × CpInfo)) (last : Nat) : List CpInfo := es.foldr (fun e r => gap e.1 (e.2 :: r)) (gap last [])
def pool (es : List (Nat × CpInfo)) (last : Nat) : Array CpInfo := ⟨poolList es last⟩
def fileOf (pool : Array CpInfo) (this : Nat) (attrs : Array Attribute := #[]) (ms : Array MethodInfo := #[]) (fl : Nat := 33) (sup : Nat := 0) (ifs : Array Nat := #[]) (fds : Array FieldInfo := #[]) : ClassFile where
  minorVersion := 0
  majorVersion := 65
  constantPool := pool
  accessFlags := fl
  thisClass := this
  superClass := sup
  interfaces := ifs
  fields := fds
  methods := ms
  attributes := attrs
def plain (name : String) (sup : Option ClassId) : Class where
  name := name
  kind := .ordinary
  loader := none
  accessFlags := 33
  super := sup
  interfaces := #[]
  cf := none
  fields := #[]
  methods := #[]
  instanceTypes := #[]
  staticTypes := #[]
  resolved := #[]
  callSites := []
  init := .initialized
  statics := none
  mirror := none

def pool0 : Array CpInfo := pool [(5, u "<init>"), (0, u "()V"), (1, .class_ 10), (1, u "java/lang/Object")] 113

def k0c0 : Code := { maxStack := 0, maxLocals := 1, code := object_method_1_code, exceptionTable := #[], attributes := #[] }
def k0m0 : Method := { name := "<init>", desc := "()V", sig := { parameters := [], returnType := none }, accessFlags := 1, code := some k0c0 }
/-- java/lang/Object -/
def k0 : Class := { plain "java/lang/Object" none with
  accessFlags := 33
  interfaces := #[]
  cf := some (fileOf pool0 8 #[] #[{ accessFlags := 1, nameIndex := 5, descriptorIndex := 6, attributes := #[] }] 33 0 #[] #[])
  fields := #[]
  methods := #[k0m0]
  instanceTypes := #[]
  staticTypes := #[]
  resolved := Array.replicate 124 none
  statics := none }

def pool1 : Array CpInfo := pool [(2, .class_ 4), (1, u "java/lang/Object"), (0, u "<init>"), (0, u "()V"), (0, .methodref 8 9), (0, .class_ 10), (0, .nameAndType 11 12), (0, u "com/example/task_relay/taskrelay/ScopeAllowsPinLaw"), (0, u "pick"), (0, u "(I)C"), (0, .string 14), (0, u ""), (0, .class_ 16), (0, u "java/lang/String"), (0, .methodref 15 18), (0, .nameAndType 5 19), (0, u "([C)V"), (0, .fieldref 21 22), (0, .class_ 23), (0, .nameAndType 24 25), (0, u "com/example/task_relay/taskrelay/Scope"), (0, u "FULL"), (0, u "Lcom/example/task_relay/taskrelay/Scope;"), (0, .fieldref 21 27), (0, .nameAndType 28 25), (0, u "READ"), (0, .methodref 21 30), (0, .nameAndType 31 32), (0, u "allows"), (0, u "(Ljava/lang/String;)Z"), (2, u "law"), (0, u "(IIIII)Z")] 3

def k1m0 : Method := { name := "<init>", desc := "()V", sig := { parameters := [], returnType := none }, accessFlags := 1, code := none }
def k1c1 : Code := { maxStack := 6, maxLocals := 16, code := code, exceptionTable := #[], attributes := #[] }
def k1m1 : Method := { name := "law", desc := "(IIIII)Z", sig := { parameters := [.int, .int, .int, .int, .int], returnType := some .boolean }, accessFlags := 9, code := some k1c1 }
def k1c2 : Code := { maxStack := 2, maxLocals := 3, code := method_3_code, exceptionTable := #[], attributes := #[] }
def k1m2 : Method := { name := "pick", desc := "(I)C", sig := { parameters := [.int], returnType := some .char }, accessFlags := 10, code := some k1c2 }
/-- com/example/task_relay/taskrelay/ScopeAllowsPinLaw -/
def k1 : Class := { plain "com/example/task_relay/taskrelay/ScopeAllowsPinLaw" (some 0) with
  accessFlags := 49
  interfaces := #[]
  cf := some (fileOf pool1 8 #[] #[{ accessFlags := 1, nameIndex := 5, descriptorIndex := 6, attributes := #[] }, { accessFlags := 9, nameIndex := 35, descriptorIndex := 36, attributes := #[] }, { accessFlags := 10, nameIndex := 11, descriptorIndex := 12, attributes := #[] }] 49 2 #[] #[])
  fields := #[]
  methods := #[k1m0, k1m1, k1m2]
  instanceTypes := #[]
  staticTypes := #[]
  resolved := Array.replicate 40 none
  statics := none }

def pool2 : Array CpInfo := pool [(1, .class_ 2), (0, u "java/io/Serializable"), (0, .class_ 4), (0, u "java/lang/Object")] 2

/-- java/io/Serializable -/
def k2 : Class := { plain "java/io/Serializable" (some 0) with
  accessFlags := 1537
  interfaces := #[]
  cf := some (fileOf pool2 1 #[] #[] 1537 3 #[] #[])
  fields := #[]
  methods := #[]
  instanceTypes := #[]
  staticTypes := #[]
  resolved := Array.replicate 7 none
  statics := none }

def pool3 : Array CpInfo := pool [(1, .class_ 2), (0, u "java/lang/Comparable"), (0, .class_ 4), (0, u "java/lang/Object")] 7

/-- java/lang/Comparable -/
def k3 : Class := { plain "java/lang/Comparable" (some 0) with
  accessFlags := 1537
  interfaces := #[]
  cf := some (fileOf pool3 1 #[] #[] 1537 3 #[] #[])
  fields := #[]
  methods := #[]
  instanceTypes := #[]
  staticTypes := #[]
  resolved := Array.replicate 12 none
  statics := none }

def pool4 : Array CpInfo := pool [(2, .class_ 4), (1, u "java/lang/CharSequence"), (42, .class_ 48), (0, u "java/lang/CharSequence$1CodePointIterator"), (10, .class_ 60), (0, u "java/lang/CharSequence$1CharIterator"), (5, .class_ 67), (0, u "java/lang/Object")] 63

/-- java/lang/CharSequence -/
def k4 : Class := { plain "java/lang/CharSequence" (some 0) with
  accessFlags := 1537
  interfaces := #[]
  cf := some (fileOf pool4 2 #[.nestMembers #[47, 59]] #[] 1537 66 #[] #[])
  fields := #[]
  methods := #[]
  instanceTypes := #[]
  staticTypes := #[]
  resolved := Array.replicate 131 none
  statics := none }

def pool5 : Array CpInfo := pool [(1, .class_ 2), (0, u "java/lang/constant/Constable"), (0, .class_ 4), (0, u "java/lang/Object")] 6

/-- java/lang/constant/Constable -/
def k5 : Class := { plain "java/lang/constant/Constable" (some 0) with
  accessFlags := 1537
  interfaces := #[]
  cf := some (fileOf pool5 1 #[] #[] 1537 3 #[] #[])
  fields := #[]
  methods := #[]
  instanceTypes := #[]
  staticTypes := #[]
  resolved := Array.replicate 11 none
  statics := none }

def pool6 : Array CpInfo := pool [(1, .class_ 2), (0, u "java/lang/constant/ConstantDesc"), (0, .class_ 4), (0, u "java/lang/Object")] 32

/-- java/lang/constant/ConstantDesc -/
def k6 : Class := { plain "java/lang/constant/ConstantDesc" (some 0) with
  accessFlags := 1537
  interfaces := #[]
  cf := some (fileOf pool6 1 #[] #[] 1537 3 #[] #[])
  fields := #[]
  methods := #[]
  instanceTypes := #[]
  staticTypes := #[]
  resolved := Array.replicate 37 none
  statics := none }

def pool7 : Array CpInfo := pool [(1, .methodref 2 3), (0, .class_ 4), (0, .nameAndType 5 6), (0, u "java/lang/Object"), (0, u "<init>"), (0, u "()V"), (2, .fieldref 10 11), (0, .class_ 12), (0, .nameAndType 13 14), (0, u "java/lang/String"), (0, u "value"), (0, u "[B"), (0, .fieldref 10 16), (0, .nameAndType 17 18), (0, u "coder"), (0, u "B"), (2, u "hash"), (0, u "I"), (2, u "hashIsZero"), (0, u "Z"), (0, .methodref 10 28), (0, .nameAndType 5 29), (0, u "([CIILjava/lang/Void;)V"), (8, .fieldref 10 39), (0, .nameAndType 40 26), (0, u "COMPACT_STRINGS"), (1, .class_ 44), (1, u "java/lang/StringUTF16"), (0, u "compress"), (1, .methodref 42 48), (0, .nameAndType 49 50), (0, u "coderFromArrayLen"), (0, u "([BI)B"), (56, .class_ 109), (1, u "java/lang/StringLatin1"), (67, .methodref 42 178), (0, .nameAndType 45 179), (0, u "([CII)[B"), (361, .methodref 107 542), (0, .nameAndType 543 544), (0, u "equals"), (0, u "([B[B)Z"), (28, u "(Ljava/lang/Object;)Z"), (1, .class_ 576), (0, u "java/lang/CharSequence"), (22, u "CASE_INSENSITIVE_ORDER"), (0, u "Ljava/util/Comparator;"), (409, u "([C)V"), (90, u "serialPersistentFields"), (0, u "[Ljava/io/ObjectStreamField;"), (0, .class_ 1104), (0, u "java/lang/String$CaseInsensitiveComparator"), (1, .class_ 1107), (0, u "java/io/Serializable"), (0, .class_ 1109), (0, u "java/lang/Comparable"), (0, .class_ 1111), (0, u "java/lang/constant/Constable"), (0, .class_ 1113), (0, u "java/lang/constant/ConstantDesc"), (2, u "serialVersionUID"), (0, u "J"), (3, u "REPL"), (0, u "C"), (2, u "LATIN1"), (1, u "UTF16")] 323

def k7m0 : Method := { name := "<init>", desc := "()V", sig := { parameters := [], returnType := none }, accessFlags := 1, code := none }
def k7c1 : Code := { maxStack := 5, maxLocals := 2, code := jdk_42_method_3_code, exceptionTable := #[], attributes := #[] }
def k7m1 : Method := { name := "<init>", desc := "([C)V", sig := { parameters := [(.array .char)], returnType := none }, accessFlags := 1, code := some k7c1 }
def k7c2 : Code := { maxStack := 2, maxLocals := 3, code := jdk_42_method_66_code, exceptionTable := #[], attributes := #[] }
def k7m2 : Method := { name := "equals", desc := "(Ljava/lang/Object;)Z", sig := { parameters := [(.object "java/lang/Object")], returnType := some .boolean }, accessFlags := 1, code := some k7c2 }
def k7c3 : Code := { maxStack := 4, maxLocals := 6, code := jdk_42_method_149_code, exceptionTable := #[], attributes := #[] }
def k7m3 : Method := { name := "<init>", desc := "([CIILjava/lang/Void;)V", sig := { parameters := [(.array .char), .int, .int, (.object "java/lang/Void")], returnType := none }, accessFlags := 2, code := some k7c3 }
/-- java/lang/String -/
def k7 : Class := { plain "java/lang/String" (some 0) with
  accessFlags := 49
  interfaces := #[2, 3, 4, 5, 6]
  cf := some (fileOf pool7 10 #[.nestMembers #[1103]] #[{ accessFlags := 1, nameIndex := 5, descriptorIndex := 6, attributes := #[] }, { accessFlags := 1, nameIndex := 5, descriptorIndex := 1010, attributes := #[] }, { accessFlags := 1, nameIndex := 543, descriptorIndex := 573, attributes := #[] }, { accessFlags := 2, nameIndex := 5, descriptorIndex := 29, attributes := #[] }] 49 2 #[1106, 1108, 575, 1110, 1112] #[{ accessFlags := 18, nameIndex := 13, descriptorIndex := 14, attributes := #[] }, { accessFlags := 18, nameIndex := 17, descriptorIndex := 18, attributes := #[] }, { accessFlags := 2, nameIndex := 21, descriptorIndex := 22, attributes := #[] }, { accessFlags := 2, nameIndex := 25, descriptorIndex := 26, attributes := #[] }, { accessFlags := 26, nameIndex := 1116, descriptorIndex := 1117, attributes := #[] }, { accessFlags := 24, nameIndex := 40, descriptorIndex := 26, attributes := #[] }, { accessFlags := 26, nameIndex := 1101, descriptorIndex := 1102, attributes := #[] }, { accessFlags := 26, nameIndex := 1121, descriptorIndex := 1122, attributes := #[] }, { accessFlags := 25, nameIndex := 599, descriptorIndex := 600, attributes := #[] }, { accessFlags := 24, nameIndex := 1125, descriptorIndex := 18, attributes := #[] }, { accessFlags := 24, nameIndex := 1127, descriptorIndex := 18, attributes := #[] }])
  fields := #[{ name := "value", type := (.array .byte), accessFlags := 18, slot := 0, constantValue := 0 }, { name := "coder", type := .byte, accessFlags := 18, slot := 1, constantValue := 0 }, { name := "hash", type := .int, accessFlags := 2, slot := 2, constantValue := 0 }, { name := "hashIsZero", type := .boolean, accessFlags := 2, slot := 3, constantValue := 0 }, { name := "serialVersionUID", type := .long, accessFlags := 26, slot := 0, constantValue := 0 }, { name := "COMPACT_STRINGS", type := .boolean, accessFlags := 24, slot := 1, constantValue := 0 }, { name := "serialPersistentFields", type := (.array (.object "java/io/ObjectStreamField")), accessFlags := 26, slot := 2, constantValue := 0 }, { name := "REPL", type := .char, accessFlags := 26, slot := 3, constantValue := 0 }, { name := "CASE_INSENSITIVE_ORDER", type := (.object "java/util/Comparator"), accessFlags := 25, slot := 4, constantValue := 0 }, { name := "LATIN1", type := .byte, accessFlags := 24, slot := 5, constantValue := 0 }, { name := "UTF16", type := .byte, accessFlags := 24, slot := 6, constantValue := 0 }]
  methods := #[k7m0, k7m1, k7m2, k7m3]
  instanceTypes := #[(.array .byte), .byte, .int, .boolean]
  staticTypes := #[.long, .boolean, (.array (.object "java/io/ObjectStreamField")), .char, (.object "java/util/Comparator"), .byte, .byte]
  resolved := Array.replicate 1451 none
  statics := some 0 }

def pool8 : Array CpInfo := pool [(2, .class_ 4), (1, u "java/lang/Enum"), (0, u "name"), (0, u "Ljava/lang/String;"), (2, u "ordinal"), (0, u "I"), (1, .class_ 14), (1, u "java/lang/Object"), (4, u "hash"), (86, .class_ 108), (1, u "java/lang/Enum$EnumDesc"), (2, .class_ 112), (0, u "java/lang/constant/Constable"), (0, .class_ 114), (0, u "java/lang/Comparable"), (0, .class_ 116), (0, u "java/io/Serializable")] 87

/-- java/lang/Enum -/
def k8 : Class := { plain "java/lang/Enum" (some 0) with
  accessFlags := 1057
  interfaces := #[5, 3, 2]
  cf := some (fileOf pool8 2 #[.nestMembers #[106]] #[] 1057 12 #[111, 113, 115] #[{ accessFlags := 18, nameIndex := 5, descriptorIndex := 6, attributes := #[] }, { accessFlags := 18, nameIndex := 9, descriptorIndex := 10, attributes := #[] }, { accessFlags := 2, nameIndex := 19, descriptorIndex := 10, attributes := #[] }])
  fields := #[{ name := "name", type := (.object "java/lang/String"), accessFlags := 18, slot := 0, constantValue := 0 }, { name := "ordinal", type := .int, accessFlags := 18, slot := 1, constantValue := 0 }, { name := "hash", type := .int, accessFlags := 2, slot := 2, constantValue := 0 }]
  methods := #[]
  instanceTypes := #[(.object "java/lang/String"), .int, .int]
  staticTypes := #[]
  resolved := Array.replicate 204 none
  statics := none }

def pool9 : Array CpInfo := pool [(1, .class_ 2), (0, u "com/example/task_relay/taskrelay/Scope"), (0, .fieldref 1 4), (0, .nameAndType 5 6), (0, u "FULL"), (0, u "Lcom/example/task_relay/taskrelay/Scope;"), (2, u "READ"), (2, u "$VALUES"), (0, u "[Lcom/example/task_relay/taskrelay/Scope;"), (6, .class_ 22), (1, u "java/lang/Enum"), (14, .methodref 38 39), (0, .class_ 40), (0, .nameAndType 41 42), (0, u "java/lang/String"), (0, u "equals"), (0, u "(Ljava/lang/Object;)Z"), (15, .string 59), (0, u "GET"), (0, .string 61), (0, u "HEAD"), (27, u "allows"), (0, u "(Ljava/lang/String;)Z")] 19

def k9c0 : Code := { maxStack := 2, maxLocals := 2, code := prog_36_method_5_code, exceptionTable := #[], attributes := #[] }
def k9m0 : Method := { name := "allows", desc := "(Ljava/lang/String;)Z", sig := { parameters := [(.object "java/lang/String")], returnType := some .boolean }, accessFlags := 0, code := some k9c0 }
/-- com/example/task_relay/taskrelay/Scope -/
def k9 : Class := { plain "com/example/task_relay/taskrelay/Scope" (some 8) with
  accessFlags := 16432
  interfaces := #[]
  cf := some (fileOf pool9 1 #[] #[{ accessFlags := 0, nameIndex := 89, descriptorIndex := 90, attributes := #[] }] 16432 20 #[] #[{ accessFlags := 16409, nameIndex := 5, descriptorIndex := 6, attributes := #[] }, { accessFlags := 16409, nameIndex := 9, descriptorIndex := 6, attributes := #[] }, { accessFlags := 4122, nameIndex := 12, descriptorIndex := 13, attributes := #[] }])
  fields := #[{ name := "FULL", type := (.object "com/example/task_relay/taskrelay/Scope"), accessFlags := 16409, slot := 0, constantValue := 0 }, { name := "READ", type := (.object "com/example/task_relay/taskrelay/Scope"), accessFlags := 16409, slot := 1, constantValue := 0 }, { name := "$VALUES", type := (.array (.object "com/example/task_relay/taskrelay/Scope")), accessFlags := 4122, slot := 2, constantValue := 0 }]
  methods := #[k9m0]
  instanceTypes := #[(.object "java/lang/String"), .int, .int]
  staticTypes := #[(.object "com/example/task_relay/taskrelay/Scope"), (.object "com/example/task_relay/taskrelay/Scope"), (.array (.object "com/example/task_relay/taskrelay/Scope"))]
  resolved := Array.replicate 110 none
  statics := some 1 }

def pool10 : Array CpInfo := pool [(4, .class_ 6), (1, u "java/lang/Object"), (0, u "<init>"), (0, u "()V"), (5, .class_ 16), (1, u "java/lang/StringLatin1"), (104, u "$assertionsDisabled"), (0, u "Z"), (98, .class_ 223), (1, u "java/lang/StringLatin1$LinesSpliterator"), (57, u "equals"), (0, u "([B[B)Z"), (107, .class_ 391), (0, u "java/lang/StringLatin1$CharsSpliterator")] 3

def k10m0 : Method := { name := "<init>", desc := "()V", sig := { parameters := [], returnType := none }, accessFlags := 0, code := none }
def k10c1 : Code := { maxStack := 3, maxLocals := 3, code := jdk_43_method_13_code, exceptionTable := #[], attributes := #[] }
def k10m1 : Method := { name := "equals", desc := "([B[B)Z", sig := { parameters := [(.array .byte), (.array .byte)], returnType := some .boolean }, accessFlags := 9, code := some k10c1 }
/-- java/lang/StringLatin1 -/
def k10 : Class := { plain "java/lang/StringLatin1" (some 0) with
  accessFlags := 48
  interfaces := #[]
  cf := some (fileOf pool10 14 #[.nestMembers #[390, 221]] #[{ accessFlags := 0, nameIndex := 7, descriptorIndex := 8, attributes := #[] }, { accessFlags := 9, nameIndex := 281, descriptorIndex := 282, attributes := #[] }] 48 4 #[] #[{ accessFlags := 4120, nameIndex := 121, descriptorIndex := 122, attributes := #[] }])
  fields := #[{ name := "$assertionsDisabled", type := .boolean, accessFlags := 4120, slot := 0, constantValue := 0 }]
  methods := #[k10m0, k10m1]
  instanceTypes := #[]
  staticTypes := #[.boolean]
  resolved := Array.replicate 395 none
  statics := none }

def pool11 : Array CpInfo := pool [(6, .class_ 8), (1, u "java/lang/Object"), (0, u "<init>"), (0, u "()V"), (1, .class_ 14), (1, u "java/lang/StringUTF16"), (31, u "$assertionsDisabled"), (0, u "Z"), (13, u "HI_BYTE_SHIFT"), (0, u "I"), (2, u "LO_BYTE_SHIFT"), (49, .methodref 12 116), (0, .nameAndType 117 118), (0, u "compress"), (0, u "([CI[BII)I"), (3, u "([CII)[B"), (138, u "coderFromArrayLen"), (0, u "([BI)B"), (106, .class_ 371), (1, u "java/lang/StringUTF16$LinesSpliterator"), (58, u "MAX_LENGTH"), (196, .class_ 628), (0, u "java/lang/StringUTF16$CodePointsSpliterator"), (0, .class_ 630), (0, u "java/lang/StringUTF16$CharsSpliterator")] 4

def k11m0 : Method := { name := "<init>", desc := "()V", sig := { parameters := [], returnType := none }, accessFlags := 0, code := none }
def k11c1 : Code := { maxStack := 2, maxLocals := 2, code := jdk_52_method_15_code, exceptionTable := #[], attributes := #[] }
def k11m1 : Method := { name := "coderFromArrayLen", desc := "([BI)B", sig := { parameters := [(.array .byte), .int], returnType := some .byte }, accessFlags := 8, code := some k11c1 }
def k11c2 : Code := { maxStack := 5, maxLocals := 6, code := jdk_52_method_16_code, exceptionTable := #[], attributes := #[] }
def k11m2 : Method := { name := "compress", desc := "([CII)[B", sig := { parameters := [(.array .char), .int, .int], returnType := some (.array .byte) }, accessFlags := 9, code := some k11c2 }
def k11c3 : Code := { maxStack := 3, maxLocals := 7, code := jdk_52_method_21_code, exceptionTable := #[], attributes := #[] }
def k11m3 : Method := { name := "compress", desc := "([CI[BII)I", sig := { parameters := [(.array .char), .int, (.array .byte), .int, .int], returnType := some .int }, accessFlags := 9, code := some k11c3 }
/-- java/lang/StringUTF16 -/
def k11 : Class := { plain "java/lang/StringUTF16" (some 0) with
  accessFlags := 48
  interfaces := #[]
  cf := some (fileOf pool11 12 #[.nestMembers #[627, 629, 369]] #[{ accessFlags := 0, nameIndex := 9, descriptorIndex := 10, attributes := #[] }, { accessFlags := 8, nameIndex := 261, descriptorIndex := 262, attributes := #[] }, { accessFlags := 9, nameIndex := 117, descriptorIndex := 122, attributes := #[] }, { accessFlags := 9, nameIndex := 117, descriptorIndex := 118, attributes := #[] }] 48 6 #[] #[{ accessFlags := 26, nameIndex := 61, descriptorIndex := 62, attributes := #[] }, { accessFlags := 26, nameIndex := 65, descriptorIndex := 62, attributes := #[] }, { accessFlags := 24, nameIndex := 430, descriptorIndex := 62, attributes := #[] }, { accessFlags := 4120, nameIndex := 46, descriptorIndex := 47, attributes := #[] }])
  fields := #[{ name := "HI_BYTE_SHIFT", type := .int, accessFlags := 26, slot := 0, constantValue := 0 }, { name := "LO_BYTE_SHIFT", type := .int, accessFlags := 26, slot := 1, constantValue := 0 }, { name := "MAX_LENGTH", type := .int, accessFlags := 24, slot := 2, constantValue := 0 }, { name := "$assertionsDisabled", type := .boolean, accessFlags := 4120, slot := 3, constantValue := 0 }]
  methods := #[k11m0, k11m1, k11m2, k11m3]
  instanceTypes := #[]
  staticTypes := #[.int, .int, .int, .boolean]
  resolved := Array.replicate 635 none
  statics := none }

def pool12 : Array CpInfo := pool [(2, .class_ 4), (1, u "java/lang/Object"), (0, u "<init>"), (0, u "()V"), (17, .class_ 26), (1, u "jdk/internal/util/Preconditions"), (28, .class_ 56), (0, u "jdk/internal/util/Preconditions$4"), (57, .class_ 115), (0, u "jdk/internal/util/Preconditions$1"), (7, u "SIOOBE_FORMATTER"), (0, u "Ljava/util/function/BiFunction;"), (0, .class_ 126), (0, u "jdk/internal/util/Preconditions$2"), (3, u "AIOOBE_FORMATTER"), (0, .class_ 132), (0, u "jdk/internal/util/Preconditions$3"), (3, u "IOOBE_FORMATTER")] 57

def k12m0 : Method := { name := "<init>", desc := "()V", sig := { parameters := [], returnType := none }, accessFlags := 1, code := none }
/-- jdk/internal/util/Preconditions -/
def k12 : Class := { plain "jdk/internal/util/Preconditions" (some 0) with
  accessFlags := 33
  interfaces := #[]
  cf := some (fileOf pool12 24 #[.nestMembers #[55, 131, 125, 114]] #[{ accessFlags := 1, nameIndex := 5, descriptorIndex := 6, attributes := #[] }] 33 2 #[] #[{ accessFlags := 25, nameIndex := 123, descriptorIndex := 124, attributes := #[] }, { accessFlags := 25, nameIndex := 130, descriptorIndex := 124, attributes := #[] }, { accessFlags := 25, nameIndex := 136, descriptorIndex := 124, attributes := #[] }])
  fields := #[{ name := "SIOOBE_FORMATTER", type := (.object "java/util/function/BiFunction"), accessFlags := 25, slot := 0, constantValue := 0 }, { name := "AIOOBE_FORMATTER", type := (.object "java/util/function/BiFunction"), accessFlags := 25, slot := 1, constantValue := 0 }, { name := "IOOBE_FORMATTER", type := (.object "java/util/function/BiFunction"), accessFlags := 25, slot := 2, constantValue := 0 }]
  methods := #[k12m0]
  instanceTypes := #[]
  staticTypes := #[(.object "java/util/function/BiFunction"), (.object "java/util/function/BiFunction"), (.object "java/util/function/BiFunction")]
  resolved := Array.replicate 194 none
  statics := some 2 }

def pool13 : Array CpInfo := pool [(9, u "<init>"), (6, .class_ 18), (1, u "java/lang/Object"), (0, u "()V"), (1, .class_ 23), (1, u "jdk/internal/util/ArraysSupport"), (0, u "LOG2_ARRAY_LONG_INDEX_SCALE"), (0, u "I"), (2, u "U"), (0, u "Ljdk/internal/misc/Unsafe;"), (8, u "BIG_ENDIAN"), (0, u "Z"), (8, u "LOG2_BYTE_BIT_SIZE"), (4, u "LOG2_ARRAY_INT_INDEX_SCALE"), (54, u "JLA"), (0, u "Ljdk/internal/access/JavaLangAccess;"), (11, u "LOG2_ARRAY_BOOLEAN_INDEX_SCALE"), (9, u "LOG2_ARRAY_BYTE_INDEX_SCALE"), (5, u "LOG2_ARRAY_CHAR_INDEX_SCALE"), (5, u "LOG2_ARRAY_SHORT_INDEX_SCALE"), (18, u "LOG2_ARRAY_FLOAT_INDEX_SCALE"), (24, u "LOG2_ARRAY_DOUBLE_INDEX_SCALE"), (89, u "T_BOOLEAN"), (2, u "T_CHAR"), (1, u "T_FLOAT"), (1, u "T_DOUBLE"), (1, u "T_BYTE"), (1, u "T_SHORT"), (1, u "T_INT"), (1, u "T_LONG"), (1, u "SOFT_MAX_ARRAY_LENGTH")] 83

def k13m0 : Method := { name := "<init>", desc := "()V", sig := { parameters := [], returnType := none }, accessFlags := 2, code := none }
/-- jdk/internal/util/ArraysSupport -/
def k13 : Class := { plain "jdk/internal/util/ArraysSupport" (some 0) with
  accessFlags := 33
  interfaces := #[]
  cf := some (fileOf pool13 21 #[] #[{ accessFlags := 2, nameIndex := 9, descriptorIndex := 19, attributes := #[] }] 33 16 #[] #[{ accessFlags := 24, nameIndex := 28, descriptorIndex := 29, attributes := #[] }, { accessFlags := 26, nameIndex := 38, descriptorIndex := 39, attributes := #[] }, { accessFlags := 25, nameIndex := 121, descriptorIndex := 25, attributes := #[] }, { accessFlags := 25, nameIndex := 131, descriptorIndex := 25, attributes := #[] }, { accessFlags := 25, nameIndex := 137, descriptorIndex := 25, attributes := #[] }, { accessFlags := 25, nameIndex := 143, descriptorIndex := 25, attributes := #[] }, { accessFlags := 25, nameIndex := 53, descriptorIndex := 25, attributes := #[] }, { accessFlags := 25, nameIndex := 24, descriptorIndex := 25, attributes := #[] }, { accessFlags := 25, nameIndex := 162, descriptorIndex := 25, attributes := #[] }, { accessFlags := 25, nameIndex := 187, descriptorIndex := 25, attributes := #[] }, { accessFlags := 26, nameIndex := 48, descriptorIndex := 25, attributes := #[] }, { accessFlags := 25, nameIndex := 277, descriptorIndex := 25, attributes := #[] }, { accessFlags := 25, nameIndex := 280, descriptorIndex := 25, attributes := #[] }, { accessFlags := 25, nameIndex := 282, descriptorIndex := 25, attributes := #[] }, { accessFlags := 25, nameIndex := 284, descriptorIndex := 25, attributes := #[] }, { accessFlags := 25, nameIndex := 286, descriptorIndex := 25, attributes := #[] }, { accessFlags := 25, nameIndex := 288, descriptorIndex := 25, attributes := #[] }, { accessFlags := 25, nameIndex := 290, descriptorIndex := 25, attributes := #[] }, { accessFlags := 25, nameIndex := 292, descriptorIndex := 25, attributes := #[] }, { accessFlags := 26, nameIndex := 108, descriptorIndex := 109, attributes := #[] }, { accessFlags := 25, nameIndex := 294, descriptorIndex := 25, attributes := #[] }])
  fields := #[{ name := "U", type := (.object "jdk/internal/misc/Unsafe"), accessFlags := 24, slot := 0, constantValue := 0 }, { name := "BIG_ENDIAN", type := .boolean, accessFlags := 26, slot := 1, constantValue := 0 }, { name := "LOG2_ARRAY_BOOLEAN_INDEX_SCALE", type := .int, accessFlags := 25, slot := 2, constantValue := 0 }, { name := "LOG2_ARRAY_BYTE_INDEX_SCALE", type := .int, accessFlags := 25, slot := 3, constantValue := 0 }, { name := "LOG2_ARRAY_CHAR_INDEX_SCALE", type := .int, accessFlags := 25, slot := 4, constantValue := 0 }, { name := "LOG2_ARRAY_SHORT_INDEX_SCALE", type := .int, accessFlags := 25, slot := 5, constantValue := 0 }, { name := "LOG2_ARRAY_INT_INDEX_SCALE", type := .int, accessFlags := 25, slot := 6, constantValue := 0 }, { name := "LOG2_ARRAY_LONG_INDEX_SCALE", type := .int, accessFlags := 25, slot := 7, constantValue := 0 }, { name := "LOG2_ARRAY_FLOAT_INDEX_SCALE", type := .int, accessFlags := 25, slot := 8, constantValue := 0 }, { name := "LOG2_ARRAY_DOUBLE_INDEX_SCALE", type := .int, accessFlags := 25, slot := 9, constantValue := 0 }, { name := "LOG2_BYTE_BIT_SIZE", type := .int, accessFlags := 26, slot := 10, constantValue := 0 }, { name := "T_BOOLEAN", type := .int, accessFlags := 25, slot := 11, constantValue := 0 }, { name := "T_CHAR", type := .int, accessFlags := 25, slot := 12, constantValue := 0 }, { name := "T_FLOAT", type := .int, accessFlags := 25, slot := 13, constantValue := 0 }, { name := "T_DOUBLE", type := .int, accessFlags := 25, slot := 14, constantValue := 0 }, { name := "T_BYTE", type := .int, accessFlags := 25, slot := 15, constantValue := 0 }, { name := "T_SHORT", type := .int, accessFlags := 25, slot := 16, constantValue := 0 }, { name := "T_INT", type := .int, accessFlags := 25, slot := 17, constantValue := 0 }, { name := "T_LONG", type := .int, accessFlags := 25, slot := 18, constantValue := 0 }, { name := "JLA", type := (.object "jdk/internal/access/JavaLangAccess"), accessFlags := 26, slot := 19, constantValue := 0 }, { name := "SOFT_MAX_ARRAY_LENGTH", type := .int, accessFlags := 25, slot := 20, constantValue := 0 }]
  methods := #[k13m0]
  instanceTypes := #[]
  staticTypes := #[(.object "jdk/internal/misc/Unsafe"), .boolean, .int, .int, .int, .int, .int, .int, .int, .int, .int, .int, .int, .int, .int, .int, .int, .int, .int, (.object "jdk/internal/access/JavaLangAccess"), .int]
  resolved := Array.replicate 378 none
  statics := none }

def pool14 : Array CpInfo := pool [(1, u "java/lang/Cloneable"), (0, .class_ 1), (0, u "java/lang/Object"), (0, .class_ 3)] 3

/-- java/lang/Cloneable -/
def k14 : Class := { plain "java/lang/Cloneable" (some 0) with
  accessFlags := 1537
  interfaces := #[]
  cf := some (fileOf pool14 2 #[] #[] 1537 4 #[] #[])
  fields := #[]
  methods := #[]
  instanceTypes := #[]
  staticTypes := #[]
  resolved := Array.replicate 8 none
  statics := none }

/-- the primitive byte -/
def k15 : Class := { plain "byte" none with kind := .primitive 'B', accessFlags := 0x411 }
/-- [B -/
def k16 : Class := { plain "[B" (some 0) with kind := .array 15 .byte, interfaces := #[14, 2], accessFlags := 1041 }

/-- the primitive char -/
def k17 : Class := { plain "char" none with kind := .primitive 'C', accessFlags := 0x411 }
/-- [C -/
def k18 : Class := { plain "[C" (some 0) with kind := .array 17 .char, interfaces := #[14, 2], accessFlags := 1041 }

/-- the primitive int -/
def k19 : Class := { plain "int" none with kind := .primitive 'I', accessFlags := 0x411 }
/-- [I -/
def k20 : Class := { plain "[I" (some 0) with kind := .array 19 .int, interfaces := #[14, 2], accessFlags := 1041 }

def heap : Heap := #[{ cls := 7, slots := #[.long 0, .int 1, .null, .int 0, .null, .int 0, .int 0], vm := .statics 7 },
  { cls := 9, slots := #[.ref 3, .ref 4, .null], vm := .statics 9 },
  { cls := 12, slots := #[.null, .null, .null], vm := .statics 12 },
  { cls := 9, slots := #[.null, .int 0, .int 0], vm := .none },
  { cls := 9, slots := #[.null, .int 1, .int 0], vm := .none }]
def classes : Array Class := #[k0, k1, k2, k3, k4, k5, k6, k7, k8, k9, k10, k11, k12, k13, k14, k15, k16, k17, k18, k19, k20]
def interned : List (Array UInt16 × Addr) := []
def slotsUsed : Nat := 19
def theMethod : MethodId := ⟨1, 1⟩
def args0 : Array Value := #[.int 5, .int 7, .int 3, .int 4, .int 9]
def aboutOver (below : List Frame) : State where
  vm := { classes := classes, interned := interned.toArray }
  heap := heap
  slotsUsed := slotsUsed
  threads := #[{ frames := .invoking theMethod args0 :: below }]
def below0 : List Frame := [.native { method := ⟨0, 0⟩, args := #[] }]
def about1 : State := aboutOver below0
def p0 : Program := .bare "" "" ""
def e0 : Env := launch0.env 0 0 0
theorem w_frames : about1.frames = Frame.invoking theMethod args0 :: below0 := rfl
set_option maxRecDepth 65536 in
theorem w_args : argsFit about1.vm theMethod args0 = true := by decide +kernel
set_option maxRecDepth 65536 in
theorem w_heap : heapFits about1 = true := by decide +kernel
set_option maxRecDepth 65536 in
theorem w_runnable : about1.curStatus? = some .runnable := by decide +kernel
set_option maxRecDepth 65536 in
theorem w_alone : about1.alone = true := by decide +kernel
set_option maxRecDepth 65536 in
theorem w_named : about1.methodNamed? x = some theMethod := by decide +kernel
set_option maxRecDepth 65536 in
theorem w_hears : about1.hears theMethod below0 = true := by decide +kernel
set_option maxRecDepth 65536 in
theorem w_ripe : about1.ripe theMethod args0 below0 = true := by decide +kernel
theorem w_running : about1.status = .running := rfl
set_option maxRecDepth 65536 in
theorem w_room : about1.hasRoom e0.platform room_1 = true :=
  launch0.hasRoom_least _ room_1 (by decide +kernel) (by decide +kernel) (by decide +kernel) (by decide +kernel) (by decide +kernel) (by decide +kernel)
theorem allAtoms_all (ts : List Jvm.Cond) (a : Array Jvm.Value) (st : Jvm.State) : (allAtoms ts).before a st = ts.all (fun c => c.before a st) := by
  induction ts with
  | nil => rfl
  | cons c t ih =>
    show (Jvm.Cond.and c (allAtoms t)).before a st = _
    rw [Jvm.Cond.before_and, ih, List.all_cons]
def words1 : List Jvm.Cond := Jvm.Cond.code x code maxLocals ret :: tables_1
/-- a 'code' word, met by the world's own term for the bytes: nothing is compared byte by byte -/
theorem code_word {y : MethodName} {bytes : ByteArray} {mx : Nat} {rt : Option FieldType} {a : Array Value} {s : State} {m : MethodId} {meth : Method} {c : Code} (h1 : s.methodNamed? y = some m) (h2 : s.vm.method? m = some meth) (h3 : meth.code = some c) (h4 : c.code = bytes)
    (h5 : (c.maxLocals == mx && c.exceptionTable.isEmpty && decide (c.maxStack ≤ mostOperands) && decide (meth.sig.returnType = rt) && !meth.locks && decide (parseMethodDescriptor y.desc = some meth.sig)) = true) : (Jvm.Cond.code y bytes mx rt).before a s = true := by
  simp only [Bool.and_eq_true, beq_iff_eq, Bool.not_eq_true', decide_eq_true_eq] at h5
  obtain ⟨⟨⟨⟨⟨g1, g2⟩, g3⟩, g4⟩, g5⟩, g6⟩ := h5
  simp [Cond.before, Cond.holds, Cond.value, h1, h2, h3, h4, g1, g2, g3, g4, g5, g6]
def isCode : Jvm.Cond → Bool
  | .code _ _ _ _ => true
  | _ => false
theorem all_split {L : List Jvm.Cond} {P : Jvm.Cond → Bool} (h1 : L.all (fun c => isCode c || P c) = true) (h2 : ∀ c ∈ L.filter isCode, P c = true) : L.all P = true := by
  refine List.all_eq_true.mpr fun c hc => ?_
  have h := List.all_eq_true.mp h1 c hc
  rcases Bool.eq_false_or_eq_true (isCode c) with hi | hi
  · exact h2 c (List.mem_filter.mpr ⟨hc, hi⟩)
  · simpa [hi] using h
set_option maxRecDepth 65536 in
theorem w_c0 : (Jvm.Cond.code x code maxLocals ret).before args0 about1 = true := code_word (m := ⟨1, 1⟩) (meth := k1m1) (c := k1c1) (by decide +kernel) rfl rfl rfl (by decide +kernel)
set_option maxRecDepth 65536 in
theorem w_c1 : (Jvm.Cond.code ({ cls := "com/example/task_relay/taskrelay/ScopeAllowsPinLaw", name := "pick", desc := "(I)C" } : Jvm.MethodName) method_3_code (3 : Nat) (Option.some Jvm.ClassFile.FieldType.char)).before args0 about1 = true := code_word (m := ⟨1, 2⟩) (meth := k1m2) (c := k1c2) (by decide +kernel) rfl rfl rfl (by decide +kernel)
set_option maxRecDepth 65536 in
theorem w_c2 : (Jvm.Cond.code ({ cls := "com/example/task_relay/taskrelay/Scope", name := "allows", desc := "(Ljava/lang/String;)Z" } : Jvm.MethodName) prog_36_method_5_code (2 : Nat) (Option.some Jvm.ClassFile.FieldType.boolean)).before args0 about1 = true := code_word (m := ⟨9, 0⟩) (meth := k9m0) (c := k9c0) (by decide +kernel) rfl rfl rfl (by decide +kernel)
set_option maxRecDepth 65536 in
theorem w_c3 : (Jvm.Cond.code ({ cls := "java/lang/String", name := "equals", desc := "(Ljava/lang/Object;)Z" } : Jvm.MethodName) jdk_42_method_66_code (3 : Nat) (Option.some Jvm.ClassFile.FieldType.boolean)).before args0 about1 = true := code_word (m := ⟨7, 2⟩) (meth := k7m2) (c := k7c2) (by decide +kernel) rfl rfl rfl (by decide +kernel)
set_option maxRecDepth 65536 in
theorem w_c4 : (Jvm.Cond.code ({ cls := "java/lang/StringLatin1", name := "equals", desc := "([B[B)Z" } : Jvm.MethodName) jdk_43_method_13_code (3 : Nat) (Option.some Jvm.ClassFile.FieldType.boolean)).before args0 about1 = true := code_word (m := ⟨10, 1⟩) (meth := k10m1) (c := k10c1) (by decide +kernel) rfl rfl rfl (by decide +kernel)
set_option maxRecDepth 65536 in
theorem w_c5 : (Jvm.Cond.code ({ cls := "java/lang/String", name := "<init>", desc := "([C)V" } : Jvm.MethodName) jdk_42_method_3_code (2 : Nat) (Option.none : Option Jvm.ClassFile.FieldType)).before args0 about1 = true := code_word (m := ⟨7, 1⟩) (meth := k7m1) (c := k7c1) (by decide +kernel) rfl rfl rfl (by decide +kernel)
set_option maxRecDepth 65536 in
theorem w_c6 : (Jvm.Cond.code ({ cls := "java/lang/String", name := "<init>", desc := "([CIILjava/lang/Void;)V" } : Jvm.MethodName) jdk_42_method_149_code (6 : Nat) (Option.none : Option Jvm.ClassFile.FieldType)).before args0 about1 = true := code_word (m := ⟨7, 3⟩) (meth := k7m3) (c := k7c3) (by decide +kernel) rfl rfl rfl (by decide +kernel)
set_option maxRecDepth 65536 in
theorem w_c7 : (Jvm.Cond.code ({ cls := "java/lang/Object", name := "<init>", desc := "()V" } : Jvm.MethodName) object_method_1_code (1 : Nat) (Option.none : Option Jvm.ClassFile.FieldType)).before args0 about1 = true := code_word (m := ⟨0, 0⟩) (meth := k0m0) (c := k0c0) (by decide +kernel) rfl rfl rfl (by decide +kernel)
set_option maxRecDepth 65536 in
theorem w_c8 : (Jvm.Cond.code ({ cls := "java/lang/StringUTF16", name := "compress", desc := "([CII)[B" } : Jvm.MethodName) jdk_52_method_16_code (6 : Nat) (Option.some (Jvm.ClassFile.FieldType.array Jvm.ClassFile.FieldType.byte))).before args0 about1 = true := code_word (m := ⟨11, 2⟩) (meth := k11m2) (c := k11c2) (by decide +kernel) rfl rfl rfl (by decide +kernel)
set_option maxRecDepth 65536 in
theorem w_c9 : (Jvm.Cond.code ({ cls := "java/lang/StringUTF16", name := "compress", desc := "([CI[BII)I" } : Jvm.MethodName) jdk_52_method_21_code (7 : Nat) (Option.some Jvm.ClassFile.FieldType.int)).before args0 about1 = true := code_word (m := ⟨11, 3⟩) (meth := k11m3) (c := k11c3) (by decide +kernel) rfl rfl rfl (by decide +kernel)
set_option maxRecDepth 65536 in
theorem w_c10 : (Jvm.Cond.code ({ cls := "java/lang/StringUTF16", name := "coderFromArrayLen", desc := "([BI)B" } : Jvm.MethodName) jdk_52_method_15_code (2 : Nat) (Option.some Jvm.ClassFile.FieldType.byte)).before args0 about1 = true := code_word (m := ⟨11, 1⟩) (meth := k11m1) (c := k11c1) (by decide +kernel) rfl rfl rfl (by decide +kernel)
def codes1 : List Jvm.Cond := [Jvm.Cond.code x code maxLocals ret, Jvm.Cond.code ({ cls := "com/example/task_relay/taskrelay/ScopeAllowsPinLaw", name := "pick", desc := "(I)C" } : Jvm.MethodName) method_3_code (3 : Nat) (Option.some Jvm.ClassFile.FieldType.char), Jvm.Cond.code ({ cls := "com/example/task_relay/taskrelay/Scope", name := "allows", desc := "(Ljava/lang/String;)Z" } : Jvm.MethodName) prog_36_method_5_code (2 : Nat) (Option.some Jvm.ClassFile.FieldType.boolean), Jvm.Cond.code ({ cls := "java/lang/String", name := "equals", desc := "(Ljava/lang/Object;)Z" } : Jvm.MethodName) jdk_42_method_66_code (3 : Nat) (Option.some Jvm.ClassFile.FieldType.boolean), Jvm.Cond.code ({ cls := "java/lang/StringLatin1", name := "equals", desc := "([B[B)Z" } : Jvm.MethodName) jdk_43_method_13_code (3 : Nat) (Option.some Jvm.ClassFile.FieldType.boolean), Jvm.Cond.code ({ cls := "java/lang/String", name := "<init>", desc := "([C)V" } : Jvm.MethodName) jdk_42_method_3_code (2 : Nat) (Option.none : Option Jvm.ClassFile.FieldType), Jvm.Cond.code ({ cls := "java/lang/String", name := "<init>", desc := "([CIILjava/lang/Void;)V" } : Jvm.MethodName) jdk_42_method_149_code (6 : Nat) (Option.none : Option Jvm.ClassFile.FieldType), Jvm.Cond.code ({ cls := "java/lang/Object", name := "<init>", desc := "()V" } : Jvm.MethodName) object_method_1_code (1 : Nat) (Option.none : Option Jvm.ClassFile.FieldType), Jvm.Cond.code ({ cls := "java/lang/StringUTF16", name := "compress", desc := "([CII)[B" } : Jvm.MethodName) jdk_52_method_16_code (6 : Nat) (Option.some (Jvm.ClassFile.FieldType.array Jvm.ClassFile.FieldType.byte)), Jvm.Cond.code ({ cls := "java/lang/StringUTF16", name := "compress", desc := "([CI[BII)I" } : Jvm.MethodName) jdk_52_method_21_code (7 : Nat) (Option.some Jvm.ClassFile.FieldType.int), Jvm.Cond.code ({ cls := "java/lang/StringUTF16", name := "coderFromArrayLen", desc := "([BI)B" } : Jvm.MethodName) jdk_52_method_15_code (2 : Nat) (Option.some Jvm.ClassFile.FieldType.byte)]
set_option maxRecDepth 65536 in
theorem codes_eq : words1.filter isCode = codes1 := rfl
theorem w_codes : ∀ c ∈ words1.filter isCode, c.before args0 about1 = true := by
  rw [codes_eq]
  intro c hc
  simp only [codes1, List.mem_cons, List.not_mem_nil, or_false] at hc
  rcases hc with rfl | rfl | rfl | rfl | rfl | rfl | rfl | rfl | rfl | rfl | rfl
  · exact w_c0
  · exact w_c1
  · exact w_c2
  · exact w_c3
  · exact w_c4
  · exact w_c5
  · exact w_c6
  · exact w_c7
  · exact w_c8
  · exact w_c9
  · exact w_c10
set_option maxRecDepth 65536 in
theorem w_t1 : (words1.take 24).all (fun c => isCode c || c.before args0 about1) = true := by decide +kernel
set_option maxRecDepth 65536 in
theorem w_t2 : ((words1.drop 24).take 24).all (fun c => isCode c || c.before args0 about1) = true := by decide +kernel
set_option maxRecDepth 65536 in
theorem w_t3 : ((words1.drop 24).drop 24).all (fun c => isCode c || c.before args0 about1) = true := by decide +kernel
theorem w_tables : (allAtoms (Jvm.Cond.code x code maxLocals ret :: tables_1)).before args0 about1 = true := by
  rw [allAtoms_all]
  show words1.all (fun c => c.before args0 about1) = true
  refine all_split ?_ w_codes
  rw [← List.take_append_drop 24 words1, List.all_append, w_t1, ← List.take_append_drop 24 (words1.drop 24), List.all_append, w_t2, w_t3]
  rfl
set_option maxRecDepth 65536 in
theorem w_rest : rest_1_c.before args0 about1 = true := by decide +kernel
set_option maxRecDepth 65536 in
theorem w_case : (Jvm.Cond.and given_1 narrow_1).before args0 about1 = true := by decide +kernel
set_option maxRecDepth 65536 in
theorem w_consts : constsHeld consts_1 about1 := Jvm.Lit.constsHeldB_iff.mp (by decide +kernel)
theorem w_applies : (headSpec (Jvm.Cond.code x code maxLocals ret :: tables_1) room_1).applies x e0.platform about1 = true :=
  (Spec.applies_iff w_frames).mpr ⟨w_running, w_runnable, w_alone, w_named, w_hears, w_ripe, w_room, w_tables⟩
theorem atStart : AtStart classFile x code maxLocals ret World_1 tables_1 room_1 Calls_1 rest_1 Pre_1 launch0 p0 e0 about1 theMethod args0 below0 :=
  ⟨lists_1, trivial, launch0.admits_env _ _ _, launch0.least_env, fairChoices_fair.cas, fairChoices_fair.clock, w_frames, w_args, w_heap, w_applies, ⟨w_consts, trivial⟩, w_rest, w_case⟩
end start1
theorem witness_1 : WitnessClaimed_1 := ⟨start1.p0, start1.e0, start1.about1, start1.theMethod, start1.args0, start1.below0, start1.atStart⟩
end Jvm.Pilot.@@N@@
