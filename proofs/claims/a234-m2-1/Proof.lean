import JvmDerived
import JvmDerived.Pilot.@@N@@Statement
import JvmDerived.Pilot.@@N@@Code
set_option linter.unusedVariables false
set_option linter.unusedSimpArgs false
/- laws to paste: pair_says, Road.wide_lo, Road.wide_hi, shr0, shr1, chr8_lo8 (cut by pick.py; bodies as the Statement names them) -/
namespace Jvm.Pilot.@@N@@
namespace StrChars
open Jvm Sem ClassFile Op Lib Jvm.Stand Jvm.Free.XT Jvm.Free.ALB Jvm.Free.JM Jvm.Free
open Jvm.Lib.Cold (StaticIs)
/-- the byte that i2b leaves of a char -/
def lo8 (x : Int32) : Int32 := x.toInt8.toInt32
/-- the byte, read back as charAt reads it, is the char -/
theorem lo8_mask {x : Int32} (h0 : ¬ x < 0) (h1 : ¬ 255 < x) : lo8 x &&& 255 = x := by
  have t : ∀ k : Fin 256, lo8 (Int32.ofNat k.val) &&& 255 = Int32.ofNat k.val := by decide +kernel
  rw [Int32.lt_iff_toInt_lt] at h0 h1
  have e0 : (0 : Int32).toInt = 0 := rfl
  have e1 : (255 : Int32).toInt = 255 := rfl
  obtain ⟨k, hk⟩ : ∃ k : Nat, x.toInt = k := ⟨x.toInt.toNat, by omega⟩
  have hx : x = Int32.ofNat k := Int32.toInt_inj.mp (by rw [hk, Int32.toInt_ofNat_small (by omega)])
  rw [hx]
  exact t ⟨k, by omega⟩
end StrChars
namespace StrChars
open Jvm Sem ClassFile Op Lib Jvm.Stand Jvm.Free.XT Jvm.Free.ALB Jvm.Free.JM Jvm.Free
open Jvm.Lib.Cold (StaticIs)
def hi8 (x : Int32) : Int32 := lo8 (x >>> ((8 : Int32) &&& 31))
/-- what StringUTF16.getChar makes of two bytes -/
def pairCh (u v : Int32) : Int32 := (((u &&& 255) <<< ((0 : Int32) &&& 31)) ||| ((v &&& 255) <<< ((8 : Int32) &&& 31))).toUInt32.toUInt16.toUInt32.toInt32
theorem shr0 (c : Int32) : c >>> ((0 : Int32) &&& 31) = c := by
  have e : ((0 : Int32) &&& 31) = 0 := by decide
  rw [e]
  apply Int32.toBitVec_inj.mp
  rw [Int32.toBitVec_shiftRight]
  have e1 : ((0 : Int32).toBitVec.smod 32) = 0#32 := by decide
  rw [e1, BitVec.sshiftRight_eq']
  exact BitVec.sshiftRight_zero
theorem lo8_and (x : Int32) : (lo8 x &&& 255).toBitVec.toNat = x.toBitVec.toNat % 256 := by
  have h : (lo8 x).toBitVec = (x.toBitVec.signExtend 8).signExtend 32 := by rw [lo8, Int8.toBitVec_toInt32, Int32.toBitVec_toInt8]
  rw [Int32.toBitVec_and, BitVec.toNat_and, h]
  have e : ((x.toBitVec.signExtend 8).signExtend 32).toNat % 256 = x.toBitVec.toNat % 256 := by
    rw [BitVec.toNat_signExtend]
    have hlt := x.toBitVec.isLt
    simp only [BitVec.toNat_setWidth, BitVec.toNat_signExtend]
    split <;> split <;> omega
  rw [← e]
  exact Nat.and_two_pow_sub_one_eq_mod _ 8
theorem pair_says {c : Int32} (h0 : ¬ c < 0) (h1 : ¬ 65535 < c) : pairCh (lo8 c) (hi8 c) = c := by
  rw [Int32.lt_iff_toInt_lt] at h0 h1
  have e0 : (0 : Int32).toInt = 0 := rfl
  have e1 : (65535 : Int32).toInt = 65535 := rfl
  have hc : c.toInt = c.toBitVec.toNat := by
    have := c.toBitVec.isLt
    have e : c.toInt = c.toBitVec.toInt := rfl
    rw [e] at h0 h1
    rw [e]
    rw [BitVec.toInt_eq_toNat_cond] at h0 h1 ⊢
    split at h0 <;> split <;> omega
  have hn : c.toBitVec.toNat < 65536 := by omega
  have a1 := lo8_and c
  have a2 : (hi8 c &&& 255).toBitVec.toNat = c.toBitVec.toNat / 256 := by
    rw [hi8, lo8_and]
    have e : ((8 : Int32) &&& 31) = 8 := by decide
    rw [e, Int32.toBitVec_shiftRight]
    have e2 : ((8 : Int32).toBitVec.smod 32) = 8#32 := by decide
    rw [e2, BitVec.sshiftRight_eq', BitVec.toNat_sshiftRight_of_msb_false (by rw [BitVec.msb_eq_false_iff_two_mul_lt]; omega)]
    show c.toBitVec.toNat >>> 8 % 256 = _
    rw [Nat.shiftRight_eq_div_pow]
    omega
  unfold pairCh
  apply Int32.toBitVec_inj.mp
  apply BitVec.eq_of_toNat_eq
  have f0 : ((0 : Int32) &&& 31) = 0 := by decide
  have f8 : ((8 : Int32) &&& 31) = 8 := by decide
  rw [f0, f8]
  have g : (((lo8 c &&& 255) <<< (0 : Int32)) ||| ((hi8 c &&& 255) <<< (8 : Int32))).toBitVec.toNat = c.toBitVec.toNat := by
    rw [Int32.toBitVec_or, Int32.toBitVec_shiftLeft, Int32.toBitVec_shiftLeft]
    have s0 : ((0 : Int32).toBitVec.smod 32) = 0#32 := by decide
    have s8 : ((8 : Int32).toBitVec.smod 32) = 8#32 := by decide
    rw [s0, s8, BitVec.toNat_or]
    simp only [BitVec.shiftLeft_eq', BitVec.toNat_shiftLeft, a1, a2]
    show (c.toBitVec.toNat % 256) <<< 0 % 2 ^ 32 ||| (c.toBitVec.toNat / 256) <<< 8 % 2 ^ 32 = _
    rw [Nat.shiftLeft_zero, Nat.mod_eq_of_lt (show c.toBitVec.toNat % 256 < 2 ^ 32 by omega), Nat.mod_eq_of_lt (show (c.toBitVec.toNat / 256) <<< 8 < 2 ^ 32 by rw [Nat.shiftLeft_eq]; omega), Nat.or_comm, ← Nat.shiftLeft_add_eq_or_of_lt (by omega), Nat.shiftLeft_eq]
    omega
  show BitVec.toNat (((((lo8 c &&& 255) <<< (0 : Int32)) ||| ((hi8 c &&& 255) <<< (8 : Int32))).toBitVec.setWidth 16).setWidth 32) = _
  rw [BitVec.toNat_setWidth, BitVec.toNat_setWidth, g]
  omega
end StrChars
namespace StrChars
open Jvm Sem ClassFile Op Lib Jvm.Stand Jvm.Free.XT Jvm.Free.ALB Jvm.Free.JM Jvm.Free
open Jvm.Lib.Cold (StaticIs)
theorem shr1 {n : Nat} (h : 2 * n < 2 ^ 31) : Int32.ofNat (2 * n) >>> ((1 : Int32) &&& 31) = Int32.ofNat n := by
  have e : ((1 : Int32) &&& 31) = 1 := by decide
  rw [e]
  apply Int32.toBitVec_inj.mp
  rw [Int32.toBitVec_shiftRight]
  have e1 : ((1 : Int32).toBitVec.smod 32) = 1#32 := by decide
  have hm : (BitVec.ofNat 32 (2 * n)).toNat = 2 * n := by rw [BitVec.toNat_ofNat, Nat.mod_eq_of_lt (by omega)]
  rw [e1, BitVec.sshiftRight_eq']
  apply BitVec.eq_of_toNat_eq
  show ((BitVec.ofNat 32 (2 * n)).sshiftRight 1).toNat = (BitVec.ofNat 32 n).toNat
  rw [BitVec.toNat_sshiftRight_of_msb_false (by rw [BitVec.msb_eq_false_iff_two_mul_lt, hm]; omega), hm, BitVec.toNat_ofNat, Nat.shiftRight_eq_div_pow]
  omega
/-- charAt's cast of a byte read back -/
def chr8 (u : Int32) : Int32 := (u &&& 255).toUInt32.toUInt16.toUInt32.toInt32
theorem chr8_lo8 {c : Int32} (h0 : ¬ c < 0) (h1 : ¬ 255 < c) : chr8 (lo8 c) = c := by
  have t : ∀ k : Fin 256, (Int32.ofNat k.val).toUInt32.toUInt16.toUInt32.toInt32 = Int32.ofNat k.val := by decide +kernel
  unfold chr8
  rw [lo8_mask h0 h1]
  rw [Int32.lt_iff_toInt_lt] at h0 h1
  have e0 : (0 : Int32).toInt = 0 := rfl
  have e1 : (255 : Int32).toInt = 255 := rfl
  obtain ⟨k, hk⟩ : ∃ k : Nat, c.toInt = k := ⟨c.toInt.toNat, by omega⟩
  have hx : c = Int32.ofNat k := Int32.toInt_inj.mp (by rw [hk, Int32.toInt_ofNat_small (by omega)])
  rw [hx]
  exact t ⟨k, by omega⟩
end StrChars
namespace StrChars.Road
open Jvm Sem ClassFile Op Lib Jvm.Stand Jvm.Free Jvm.Free.XT
open Jvm.Lib.Cold (StaticIs)
/-- the bytes of the chars cs, low before high -/
def wideBytes : List Int32 → List Value
  | [] => []
  | c :: cs => .int (lo8 c) :: .int (hi8 c) :: wideBytes cs
theorem wide_lo (d : Value) : ∀ (cs : List Int32) (j : Nat), j < cs.length → (wideBytes cs).getD (2 * j) d = .int (lo8 (cs.getD j 0))
  | [], j, h => absurd h (Nat.not_lt_zero j)
  | c :: cs, 0, _ => rfl
  | c :: cs, j + 1, h => by
    have q := wide_lo d cs j (by simpa using h)
    rw [show 2 * (j + 1) = 2 * j + 1 + 1 from by omega]
    simpa [wideBytes] using q
theorem wide_hi (d : Value) : ∀ (cs : List Int32) (j : Nat), j < cs.length → (wideBytes cs).getD (2 * j + 1) d = .int (hi8 (cs.getD j 0))
  | [], j, h => absurd h (Nat.not_lt_zero j)
  | c :: cs, 0, _ => rfl
  | c :: cs, j + 1, h => by
    have q := wide_hi d cs j (by simpa using h)
    rw [show 2 * (j + 1) + 1 = 2 * j + 1 + 1 + 1 from by omega]
    simpa [wideBytes] using q
end StrChars.Road
end Jvm.Pilot.@@N@@
namespace Jvm.RoadKit
open Sem ClassFile Op Lib Jvm.Stand Jvm.Free Jvm.LawKit
section New
variable {p : Program} {l : Launch} {e : Env} {R : Room} {s : State} {m : MethodId} {args : Array Value} {below : List Frame} {meth : Method} {c : Code} {T : State} {locs : List Loc} {cells slots : Nat}
theorem retI (X : Stand p l e R s m args below meth c T locs cells slots) (hx : p.tables.exec = Jvm.exec) {pc : Nat} {Ls : Array Slot} {z : Int32} {rest : List Value} (hret : meth.sig.returnType = some .int) (hd : decode c.code pc = .ok (.ireturn, 1)) {fs : List Frame}
    (hl : ∀ (f : JFrame) (acts : List Action), f.method = m → f.locked = none → f.entered = [] → (doReturn e (T.setTop f) acts (some (.int z))).1 = T.setFrames fs) : Steps p.tables e below (T.setTop (mkF m pc Ls (.int z :: rest))) (T.setFrames fs) := by
  have hm' : T.vm.method? m = some meth := X.method'
  have hn : narrow .int (.int z) = .int z := rfl
  show Steps p.tables e below (T.setTop { method := m, pc := pc, locals := Ls, stack := _ :: rest, locked := none }) _
  jvm_step X.here [X.here.top, hx, hd, hm', hret, hn]
  first | (intro acts; rw [hl _ acts rfl rfl rfl]) | rw [hl _ _ rfl rfl rfl]
  exact Steps.refl _
end New
end Jvm.RoadKit
namespace Jvm.Pilot.@@N@@
open Jvm Jvm.ClassFile Sem Op Lib Jvm.Free Jvm.Stand Jvm.LawKit Jvm.RoadKit Bundle Jvm.Pilot.@@N@@.Jvm.D
/-- a truth value as the machine holds it -/
def bi (P : Prop) [Decidable P] : Int32 := if P then 1 else 0
theorem bi_t {P : Prop} [Decidable P] (h : P) : bi P = 1 := if_pos h
theorem bi_f {P : Prop} [Decidable P] (h : ¬ P) : bi P = 0 := if_neg h
theorem bi_n {P : Prop} [Decidable P] (h : P) : ¬ (bi P = 0) := by rw [bi_t h]; decide
theorem bi_nar {P : Prop} [Decidable P] : nar .boolean (bi P) = bi P := by
  by_cases h : P
  · rw [bi_t h]; rfl
  · rw [bi_f h]; rfl
theorem bi_c {P Q : Prop} [Decidable P] [Decidable Q] (h : P ↔ Q) : bi P = bi Q := by
  by_cases k : P
  · rw [bi_t k, bi_t (h.mp k)]
  · rw [bi_f k, bi_f fun x => k (h.mpr x)]
theorem own_ext {h h' : Heap} (K : Keep h h' []) : Ext h h' := ⟨K.1, fun a c r => K.2.1 a c r nin0⟩
theorem own_staN {Z : State} {h h' : Heap} {C n d : String} {v : Value} {ws : List Addr} (F : Sta Z h C n d v) (K : Keep h h' ws) (r : ∀ x ∈ ws, ∀ cell : Cell, h[x]? = some cell → cell.vm.isStatics = false) : Sta Z h' C n d v := by
  obtain ⟨cf, i, k, f, st, cell, h1, h2, h3, h4, h5, h6, h7⟩ := F
  refine ⟨cf, i, k, f, st, cell, h1, h2, h3, h4, K.2.1 _ _ h5 (fun u => ?_), h6, h7⟩
  have q := r st u cell h5
  rw [h6] at q; cases q
theorem own_nE {Z : State} {h : Heap} {x : Addr} {D : String} (E : Exa Z h x D) : ∀ cell : Cell, h[x]? = some cell → cell.vm.isStatics = false := fun cell q => by
  obtain ⟨c2, k2, g1, g2, g3, g4, g5⟩ := E
  cases q.symm.trans g1
  exact g4
theorem own_nV {Z : State} {h : Heap} {x : Addr} {k : ClassId} {ty : FieldType} {z : Int32} {vs : List Value} {d : Value} (V : Arv Z h x k ty z vs d) : ∀ cell : Cell, h[x]? = some cell → cell.vm.isStatics = false := fun cell q => by
  obtain ⟨c2, A, -⟩ := V
  cases q.symm.trans A.1
  exact A.plain
theorem own_eqI {args : Array Value} {s : State} {t : Term} {n : Int32} (h : (Jvm.Cond.eq t (.int n)).value args s none s [] = some true) : t.eval args s none [] s = some (.int n) := by
  obtain ⟨x, y, h1, h2, k1, k2⟩ := cmp_v (Or.inl h)
  cases (Term.int_eval n).symm.trans h2
  obtain ⟨z, rfl⟩ := k2
  have u := gotT (show (Jvm.Cond.eq t (.int n)).value args s none s [] = some (decide (z = n)) from by simp [Cond.value, h1, Term.eval]) h
  rw [h1, u]
theorem own_eqL {args : Array Value} {s : State} {t : Term} {n : Int64} (h : (Jvm.Cond.eq t (.long n)).value args s none s [] = some true) : t.eval args s none [] s = some (.long n) := by
  obtain ⟨x, y, h1, h2, k1, k2⟩ := cmp_v (Or.inl h)
  cases (long_at n).symm.trans h2
  obtain ⟨z, rfl⟩ := k2
  have u := gotT (eq_L h1 (long_at n)) h
  rw [h1, u]
open StrChars StrChars.Road
theorem own_nat {a : Nat} (h : a < 2 ^ 31) : (Int32.ofNat a).toInt = a := Int32.toInt_ofNat_small h
theorem own_in {a b : Nat} (h : a < b) (hb : b < 2 ^ 31) : ¬ Int32.ofNat a < 0 ∧ Int32.ofNat a < Int32.ofNat b := by
  have e0 : (0 : Int32).toInt = 0 := rfl
  rw [Int32.lt_iff_toInt_lt, Int32.lt_iff_toInt_lt, own_nat (Nat.lt_trans h hb), own_nat hb, e0]; omega
theorem own_tn {a : Nat} (h : a < 2 ^ 31) : (Int32.ofNat a).toNatClampNeg = a := by
  simp only [Int32.toNatClampNeg, own_nat h]; rfl
theorem own_eqn {x : Int32} {a : Nat} (h : a < 2 ^ 31) (e : x.toInt = a) : x = Int32.ofNat a := Int32.toInt_inj.mp (by rw [own_nat h]; exact e)
theorem own_shl1 {i : Nat} (h : 2 * i < 2 ^ 31) : ((Int32.ofNat i) <<< ((1 : Int32) &&& 31)) = (Int32.ofNat (2 * i)) := by
  have h1 := c_ishl (Int32.ofNat i) 1 1 (by decide)
  have h2 := rng32 ((Int32.ofNat i) <<< ((1 : Int32) &&& 31))
  rw [own_nat (by omega)] at h1
  refine own_eqn h ?_
  have : ((2 ^ 1 : Nat) : Int) = 2 := by decide
  rw [this] at h1; omega
theorem own_inc {a : Nat} (h : a + 1 < 2 ^ 31) : ((Int32.ofNat a) + (1 : Int32)) = (Int32.ofNat (a + 1)) := by
  have h1 := c_iadd (Int32.ofNat a) 1
  have h2 := rng32 ((Int32.ofNat a) + (1 : Int32))
  have e1 : (1 : Int32).toInt = 1 := rfl
  rw [own_nat (by omega), e1] at h1
  exact own_eqn h (by omega)
theorem own_lo8 (x : Int32) : nar .byte (lo8 x) = lo8 x := by
  show (x.toInt8.toInt32).toInt8.toInt32 = x.toInt8.toInt32
  simp
theorem own_b0 (x : Int32) : nar .byte ((x >>> ((0 : Int32) &&& 31)).toInt8.toInt32) = lo8 x := by
  rw [shr0]; exact own_lo8 x
theorem own_b1 (x : Int32) : nar .byte ((x >>> ((8 : Int32) &&& 31)).toInt8.toInt32) = hi8 x := own_lo8 _
theorem own_narw (c : Int32) (h : ¬ c < 0 ∧ ¬ (65535 : Int32) < c) : nar .char c = c := by
  obtain ⟨h1, h2⟩ := h
  rw [Int32.lt_iff_toInt_lt] at h1 h2
  have e0 : (0 : Int32).toInt = 0 := rfl
  have e2 : (65535 : Int32).toInt = 65535 := rfl
  have h3 := c_i2c c
  apply Int32.toInt_inj.mp
  show c.toUInt32.toUInt16.toUInt32.toInt32.toInt = c.toInt
  omega
theorem d22_0 : decode jdk_52_method_4_code 0 = .ok (.getstatic 44, 3) := by decide +kernel
theorem d22_3 : decode jdk_52_method_4_code 3 = .ok (.ifCond .ne 25, 3) := by decide +kernel
theorem d22_28 : decode jdk_52_method_4_code 28 = .ok (.iload_n 1, 1) := by decide +kernel
theorem d22_29 : decode jdk_52_method_4_code 29 = .ok (.iconst 1, 1) := by decide +kernel
theorem d22_30 : decode jdk_52_method_4_code 30 = .ok (.ishl, 1) := by decide +kernel
theorem d22_31 : decode jdk_52_method_4_code 31 = .ok (.istore_n 1, 1) := by decide +kernel
theorem d22_32 : decode jdk_52_method_4_code 32 = .ok (.aload_n 0, 1) := by decide +kernel
theorem d22_33 : decode jdk_52_method_4_code 33 = .ok (.iload_n 1, 1) := by decide +kernel
theorem d22_34 : decode jdk_52_method_4_code 34 = .ok (.iinc 1 1, 3) := by decide +kernel
theorem d22_37 : decode jdk_52_method_4_code 37 = .ok (.iload_n 2, 1) := by decide +kernel
theorem d22_38 : decode jdk_52_method_4_code 38 = .ok (.getstatic 59, 3) := by decide +kernel
theorem d22_41 : decode jdk_52_method_4_code 41 = .ok (.ishr, 1) := by decide +kernel
theorem d22_42 : decode jdk_52_method_4_code 42 = .ok (.i2b, 1) := by decide +kernel
theorem d22_43 : decode jdk_52_method_4_code 43 = .ok (.bastore, 1) := by decide +kernel
theorem d22_44 : decode jdk_52_method_4_code 44 = .ok (.aload_n 0, 1) := by decide +kernel
theorem d22_45 : decode jdk_52_method_4_code 45 = .ok (.iload_n 1, 1) := by decide +kernel
theorem d22_46 : decode jdk_52_method_4_code 46 = .ok (.iload_n 2, 1) := by decide +kernel
theorem d22_47 : decode jdk_52_method_4_code 47 = .ok (.getstatic 63, 3) := by decide +kernel
theorem d22_50 : decode jdk_52_method_4_code 50 = .ok (.ishr, 1) := by decide +kernel
theorem d22_51 : decode jdk_52_method_4_code 51 = .ok (.i2b, 1) := by decide +kernel
theorem d22_52 : decode jdk_52_method_4_code 52 = .ok (.bastore, 1) := by decide +kernel
theorem d22_53 : decode jdk_52_method_4_code 53 = .ok (.return_, 1) := by decide +kernel
theorem pn_22 : plainName "java/lang/StringUTF16" = true := by first | (simp [plainName, overriddenIn]; done) | decide +kernel
theorem ef_rmPut (m : MethodId) (o0 : Addr) (p2 : Int32) (i : Nat) : entryFrame m #[(.ref o0), (.int (Int32.ofNat i)), (.int p2)] 3 = mkF m 0 #[.val (.ref o0), .val (.int (Int32.ofNat i)), .val (.int p2)] [] := by first | (simp [entryFrame, mkF, argsToLocals, Value.category]; done) | rfl
def QrmPut (Z : State) (o0 : Addr) (p2 : Int32) (i : Nat) (n : Nat) (kb : ClassId) (vs : List Value) (h0 : Heap) (n0 : Nat) (v : Option Value) (h : Heap) (L : List Loc) : Prop := v = none ∧ Fr n0 L ∧ Keep h0 h [o0] ∧ Arv Z h o0 kb .byte (Int32.ofNat (2 * n)) (List.set (List.set vs (2 * i) (.int (lo8 p2))) (2 * i + 1) (.int (hi8 p2))) (.int (0 : Int32))
set_option maxRecDepth 65536 in
set_option maxHeartbeats 40000000 in
theorem rmPut (l : Launch) (Z : State) (a0 : Array Value) (hw : ∀ d ∈ tables_1, d.before a0 Z = true) (ws : List Jvm.Cond) (o0 : Addr) (p2 : Int32) (i : Nat) (n : Nat) (kb : ClassId) (vs : List Value) (h0 : Heap) (n0 : Nat) (Z0 : n0 ≤ h0.size) (H0 : Sta Z h0 "java/lang/StringUTF16" "$assertionsDisabled" "Z" (.int (1 : Int32))) (H1 : Sta Z h0 "java/lang/StringUTF16" "HI_BYTE_SHIFT" "I" (.int (0 : Int32))) (H2 : Sta Z h0 "java/lang/StringUTF16" "LO_BYTE_SHIFT" "I" (.int (8 : Int32))) (H3 : Arv Z h0 o0 kb .byte (Int32.ofNat (2 * n)) vs (.int (0 : Int32))) (H4 : n0 ≤ o0) (hi : i < n) (hn : n ≤ 12) (hl : vs.length = 2 * n) :
    MetFree l (⟨"java/lang/StringUTF16", "putChar", "([BII)V"⟩ : MethodName) (head1 (Jvm.Cond.code (⟨"java/lang/StringUTF16", "putChar", "([BII)V"⟩ : MethodName) jdk_52_method_4_code 3 none :: ws) ({ frames := 0, cells := 0, slots := 0, locals := 0 } : Room)) (fun a U => a = #[(.ref o0), (.int (Int32.ofNat i)), (.int p2)] ∧ Z.Warmed39 U.vm ∧ U.heap = h0) (fun _ _ _ _ _ => True) (fun _ U o U' => ∃ v L, o = .returned v ∧ QrmPut Z o0 p2 i n kb vs h0 n0 v U'.heap L ∧ FrameEnd U o U' L ({ frames := 0, cells := 0, slots := 0, locals := 0 } : Room).cells ({ frames := 0, cells := 0, slots := 0, locals := 0 } : Room).slots) := by
  refine MetFree.of_bodySF (plainFor_of_name pn_22) hisR ?_
  intro p e s m args below meth c s₁ Bd hml0 hP hK
  obtain ⟨rfl, hZ, hh⟩ := hP
  have hx := Bd.exec
  have hby := Bd.bytes
  have hml : c.maxLocals = 3 := hml0
  have hown : s.vm.findClass "java/lang/StringUTF16" = some m.cls := findClass_of_methodNamed Bd.named
  have hnm := (name_of_methodNamed Bd.named Bd.method).1
  have X0 : Stand p l e ({ frames := 0, cells := 0, slots := 0, locals := 0 } : Room) s m #[(.ref o0), (.int (Int32.ofNat i)), (.int p2)] below meth c s₁ [] 0 0 := Stand.of_body Bd
  have e0 : s₁.heap = h0 := by rw [← hh, Bd.state]; rfl
  have N0 := Fr.nil n0
  have pre0 : ∀ t, Steps p.tables e below (s₁.setTop (mkF m 0 #[.val (.ref o0), .val (.int (Int32.ofNat i)), .val (.int p2)] [])) t → Steps p.tables e below (s₁.setTop (entryFrame m #[(.ref o0), (.int (Int32.ofNat i)), (.int p2)] 3)) t := fun t k => castTop (ef_rmPut m o0 p2 i) k
  have z1 : @LT.lt Nat _ o0 (Array.size h0) := H3.lt
  have KC0 : Keep h0 h0 [o0] := Keep.refl _ _
  obtain ⟨T2, X2, e2, st2⟩ := getS2 X0 hx hZ hown (host := "") (Or.inl (hw _ (List.mem_of_getElem? (i := 101) rfl))) Via.refl e0 H0 (g := (mkF m 0 #[.val (.ref o0), .val (.int (Int32.ofNat i)), .val (.int p2)] [])) rfl (hb hby d22_0)
  have pre3 : ∀ t, Steps p.tables e below (T2.setTop (mkF m 32 #[.val (.ref o0), .val (.int ((Int32.ofNat i) <<< ((1 : Int32) &&& 31))), .val (.int p2)] [])) t → Steps p.tables e below (s₁.setTop (entryFrame m #[(.ref o0), (.int (Int32.ofNat i)), (.int p2)] 3)) t := fun t k => by
    refine pre0 _ ?_
    show Steps p.tables e below (s₁.setTop (mkF m 0 #[.val (.ref o0), .val (.int (Int32.ofNat i)), .val (.int p2)] [])) _
    refine st2 _ ?_
    show Steps p.tables e below (T2.setTop (mkF m 3 #[.val (.ref o0), .val (.int (Int32.ofNat i)), .val (.int p2)] [(.int (1 : Int32))])) _
    refine XS.ifYes X2.here hx rfl (pc0 := 3) (pc' := 28) rfl (hb hby d22_3) rfl ((if0 _ _).trans (feq (by decide : ¬ ((1 : Int32) = (0 : Int32)))).2) (by decide) (by decide) ?_
    show Steps p.tables e below (T2.setTop (mkF m 28 #[.val (.ref o0), .val (.int (Int32.ofNat i)), .val (.int p2)] [])) _
    refine XS.iloadN X2.here hx rfl (hb hby d22_28) rfl ?_
    show Steps p.tables e below (T2.setTop (mkF m 29 #[.val (.ref o0), .val (.int (Int32.ofNat i)), .val (.int p2)] [(.int (Int32.ofNat i))])) _
    refine XS.iconst X2.here hx rfl (hb hby d22_29) ?_
    show Steps p.tables e below (T2.setTop (mkF m 30 #[.val (.ref o0), .val (.int (Int32.ofNat i)), .val (.int p2)] [(.int (1 : Int32)), (.int (Int32.ofNat i))])) _
    refine XS.ishl X2.here hx rfl (hb hby d22_30) rfl ?_
    show Steps p.tables e below (T2.setTop (mkF m 31 #[.val (.ref o0), .val (.int (Int32.ofNat i)), .val (.int p2)] [(.int ((Int32.ofNat i) <<< ((1 : Int32) &&& 31)))])) _
    refine XS.istoreN X2.here hx rfl (hb hby d22_31) rfl (l' := #[.val (.ref o0), .val (.int ((Int32.ofNat i) <<< ((1 : Int32) &&& 31))), .val (.int p2)]) rfl ?_
    exact k
  have pre4 : ∀ t, Steps p.tables e below (T2.setTop (mkF m 32 #[.val (.ref o0), .val (.int (Int32.ofNat (2 * i))), .val (.int p2)] [])) t → Steps p.tables e below (s₁.setTop (entryFrame m #[(.ref o0), (.int (Int32.ofNat i)), (.int p2)] 3)) t := fun t k => pre3 t (by rw [own_shl1 (by omega)]; exact k)
  obtain ⟨T5, X5, e5, st5⟩ := getS2 X2 hx hZ hown (host := "") (Or.inl (hw _ (List.mem_of_getElem? (i := 102) rfl))) Via.refl e2 H1 (g := (mkF m 38 #[.val (.ref o0), .val (.int ((Int32.ofNat (2 * i)) + (1 : Int32))), .val (.int p2)] [(.int p2), (.int (Int32.ofNat (2 * i))), (.ref o0)])) rfl (hb hby d22_38)
  obtain ⟨cl6, Ar6, q6, S6, N6', H6, G6⟩ := id H3
  have hin6 : ¬ ((Int32.ofNat (2 * i)) < 0 ∨ cl6.slots.size ≤ ((Int32.ofNat (2 * i))).toNatClampNeg) := inb_of S6 (own_in (by omega) (by omega))
  obtain ⟨T7, h7, X7, e7, W7, st7⟩ := stB X5 hx hZ e5 Ar6 (j := (Int32.ofNat (2 * i))) hin6 (g := (mkF m 43 #[.val (.ref o0), .val (.int ((Int32.ofNat (2 * i)) + (1 : Int32))), .val (.int p2)] [(.int ((p2 >>> ((0 : Int32) &&& 31)).toInt8.toInt32)), (.int (Int32.ofNat (2 * i))), (.ref o0)])) rfl rfl (hb hby d22_43)
  have z8 := W7.size
  have N7 := Fr.snoc X7 N0 (by omega : n0 ≤ o0)
  have KC9 : Keep h0 h7 [o0] := KC0.wr W7 (Or.inl (List.mem_of_getElem? (i := 0) rfl))
  have V7 : Arv Z h7 o0 kb .byte (Int32.ofNat (2 * n)) (List.set vs (2 * i) (.int (nar .byte ((p2 >>> ((0 : Int32) &&& 31)).toInt8.toInt32)))) (.int (0 : Int32)) := Arv.set Ar6 q6 S6 N6' H6 G6 (fits_nar_byte _) W7 (2 * i) (own_tn (by omega)) (by omega)
  have pre10 : ∀ t, Steps p.tables e below (T7.setTop (mkF m 44 #[.val (.ref o0), .val (.int ((Int32.ofNat (2 * i)) + (1 : Int32))), .val (.int p2)] [])) t → Steps p.tables e below (s₁.setTop (entryFrame m #[(.ref o0), (.int (Int32.ofNat i)), (.int p2)] 3)) t := fun t k => by
    refine pre4 _ ?_
    show Steps p.tables e below (T2.setTop (mkF m 32 #[.val (.ref o0), .val (.int (Int32.ofNat (2 * i))), .val (.int p2)] [])) _
    refine XS.aloadN X2.here hx rfl (hb hby d22_32) rfl rfl ?_
    show Steps p.tables e below (T2.setTop (mkF m 33 #[.val (.ref o0), .val (.int (Int32.ofNat (2 * i))), .val (.int p2)] [(.ref o0)])) _
    refine XS.iloadN X2.here hx rfl (hb hby d22_33) rfl ?_
    show Steps p.tables e below (T2.setTop (mkF m 34 #[.val (.ref o0), .val (.int (Int32.ofNat (2 * i))), .val (.int p2)] [(.int (Int32.ofNat (2 * i))), (.ref o0)])) _
    refine XS.iinc X2.here hx rfl (hb hby d22_34) rfl (l' := #[.val (.ref o0), .val (.int ((Int32.ofNat (2 * i)) + (1 : Int32))), .val (.int p2)]) rfl ?_
    show Steps p.tables e below (T2.setTop (mkF m 37 #[.val (.ref o0), .val (.int ((Int32.ofNat (2 * i)) + (1 : Int32))), .val (.int p2)] [(.int (Int32.ofNat (2 * i))), (.ref o0)])) _
    refine XS.iloadN X2.here hx rfl (hb hby d22_37) rfl ?_
    show Steps p.tables e below (T2.setTop (mkF m 38 #[.val (.ref o0), .val (.int ((Int32.ofNat (2 * i)) + (1 : Int32))), .val (.int p2)] [(.int p2), (.int (Int32.ofNat (2 * i))), (.ref o0)])) _
    refine st5 _ ?_
    show Steps p.tables e below (T5.setTop (mkF m 41 #[.val (.ref o0), .val (.int ((Int32.ofNat (2 * i)) + (1 : Int32))), .val (.int p2)] [(.int (0 : Int32)), (.int p2), (.int (Int32.ofNat (2 * i))), (.ref o0)])) _
    refine XS.ishr X5.here hx rfl (hb hby d22_41) rfl ?_
    show Steps p.tables e below (T5.setTop (mkF m 42 #[.val (.ref o0), .val (.int ((Int32.ofNat (2 * i)) + (1 : Int32))), .val (.int p2)] [(.int (p2 >>> ((0 : Int32) &&& 31))), (.int (Int32.ofNat (2 * i))), (.ref o0)])) _
    refine XS.i2b X5.here hx rfl (hb hby d22_42) rfl ?_
    show Steps p.tables e below (T5.setTop (mkF m 43 #[.val (.ref o0), .val (.int ((Int32.ofNat (2 * i)) + (1 : Int32))), .val (.int p2)] [(.int ((p2 >>> ((0 : Int32) &&& 31)).toInt8.toInt32)), (.int (Int32.ofNat (2 * i))), (.ref o0)])) _
    refine st7 _ ?_
    exact k
  have pre11 : ∀ t, Steps p.tables e below (T7.setTop (mkF m 44 #[.val (.ref o0), .val (.int (Int32.ofNat (2 * i + 1))), .val (.int p2)] [])) t → Steps p.tables e below (s₁.setTop (entryFrame m #[(.ref o0), (.int (Int32.ofNat i)), (.int p2)] 3)) t := fun t k => pre10 t (by rw [own_inc (by omega)]; exact k)
  have Fc12 := (H2.wr W7)
  obtain ⟨T13, X13, e13, st13⟩ := getS2 X7 hx hZ hown (host := "") (Or.inl (hw _ (List.mem_of_getElem? (i := 103) rfl))) Via.refl e7 Fc12 (g := (mkF m 47 #[.val (.ref o0), .val (.int (Int32.ofNat (2 * i + 1))), .val (.int p2)] [(.int p2), (.int (Int32.ofNat (2 * i + 1))), (.ref o0)])) rfl (hb hby d22_47)
  obtain ⟨cl14, Ar14, q14, S14, N14', H14, G14⟩ := id V7
  have hin14 : ¬ ((Int32.ofNat (2 * i + 1)) < 0 ∨ cl14.slots.size ≤ ((Int32.ofNat (2 * i + 1))).toNatClampNeg) := inb_of S14 (own_in (by omega) (by omega))
  obtain ⟨T15, h15, X15, e15, W15, st15⟩ := stB X13 hx hZ e13 Ar14 (j := (Int32.ofNat (2 * i + 1))) hin14 (g := (mkF m 52 #[.val (.ref o0), .val (.int (Int32.ofNat (2 * i + 1))), .val (.int p2)] [(.int ((p2 >>> ((8 : Int32) &&& 31)).toInt8.toInt32)), (.int (Int32.ofNat (2 * i + 1))), (.ref o0)])) rfl rfl (hb hby d22_52)
  have z16 := W15.size
  have N15 := Fr.snoc X15 N7 (by omega : n0 ≤ o0)
  have KC17 : Keep h0 h15 [o0] := KC9.wr W15 (Or.inl (List.mem_of_getElem? (i := 0) rfl))
  have V15 : Arv Z h15 o0 kb .byte (Int32.ofNat (2 * n)) (List.set (List.set vs (2 * i) (.int (nar .byte ((p2 >>> ((0 : Int32) &&& 31)).toInt8.toInt32)))) (2 * i + 1) (.int (nar .byte ((p2 >>> ((8 : Int32) &&& 31)).toInt8.toInt32)))) (.int (0 : Int32)) := Arv.set Ar14 q14 S14 N14' H14 G14 (fits_nar_byte _) W15 (2 * i + 1) (own_tn (by omega)) (by rw [List.length_set]; omega)
  obtain ⟨fs, hr, hrun, hended, hW, hsame⟩ := X15.leave (v := none) (fun _ => rfl)
  refine ⟨_, _, pre11 _ ?_, hrun, hended, _, _, rfl, ?_, ⟨_, rfl⟩, hW, hsame.mono (by decide) (by decide)⟩
  · show Steps p.tables e below (T7.setTop (mkF m 44 #[.val (.ref o0), .val (.int (Int32.ofNat (2 * i + 1))), .val (.int p2)] [])) _
    refine XS.aloadN X7.here hx rfl (hb hby d22_44) rfl rfl ?_
    show Steps p.tables e below (T7.setTop (mkF m 45 #[.val (.ref o0), .val (.int (Int32.ofNat (2 * i + 1))), .val (.int p2)] [(.ref o0)])) _
    refine XS.iloadN X7.here hx rfl (hb hby d22_45) rfl ?_
    show Steps p.tables e below (T7.setTop (mkF m 46 #[.val (.ref o0), .val (.int (Int32.ofNat (2 * i + 1))), .val (.int p2)] [(.int (Int32.ofNat (2 * i + 1))), (.ref o0)])) _
    refine XS.iloadN X7.here hx rfl (hb hby d22_46) rfl ?_
    show Steps p.tables e below (T7.setTop (mkF m 47 #[.val (.ref o0), .val (.int (Int32.ofNat (2 * i + 1))), .val (.int p2)] [(.int p2), (.int (Int32.ofNat (2 * i + 1))), (.ref o0)])) _
    refine st13 _ ?_
    show Steps p.tables e below (T13.setTop (mkF m 50 #[.val (.ref o0), .val (.int (Int32.ofNat (2 * i + 1))), .val (.int p2)] [(.int (8 : Int32)), (.int p2), (.int (Int32.ofNat (2 * i + 1))), (.ref o0)])) _
    refine XS.ishr X13.here hx rfl (hb hby d22_50) rfl ?_
    show Steps p.tables e below (T13.setTop (mkF m 51 #[.val (.ref o0), .val (.int (Int32.ofNat (2 * i + 1))), .val (.int p2)] [(.int (p2 >>> ((8 : Int32) &&& 31))), (.int (Int32.ofNat (2 * i + 1))), (.ref o0)])) _
    refine XS.i2b X13.here hx rfl (hb hby d22_51) rfl ?_
    show Steps p.tables e below (T13.setTop (mkF m 52 #[.val (.ref o0), .val (.int (Int32.ofNat (2 * i + 1))), .val (.int p2)] [(.int ((p2 >>> ((8 : Int32) &&& 31)).toInt8.toInt32)), (.int (Int32.ofNat (2 * i + 1))), (.ref o0)])) _
    refine st15 _ ?_
    show Steps p.tables e below (T15.setTop (mkF m 53 #[.val (.ref o0), .val (.int (Int32.ofNat (2 * i + 1))), .val (.int p2)] [])) _
    exact X15.returnOut hx Bd.returns (hb hby d22_53) hr
  · show QrmPut Z o0 p2 i n kb vs h0 n0 _ T15.heap _
    rw [e15]
    exact ⟨rfl, N15, KC17, (by have k := V15; rw [own_b0, own_b1] at k; exact k)⟩
theorem d23_0 : decode jdk_52_method_5_code 0 = .ok (.getstatic 44, 3) := by decide +kernel
theorem d23_3 : decode jdk_52_method_5_code 3 = .ok (.ifCond .ne 25, 3) := by decide +kernel
theorem d23_28 : decode jdk_52_method_5_code 28 = .ok (.iload_n 1, 1) := by decide +kernel
theorem d23_29 : decode jdk_52_method_5_code 29 = .ok (.iconst 1, 1) := by decide +kernel
theorem d23_30 : decode jdk_52_method_5_code 30 = .ok (.ishl, 1) := by decide +kernel
theorem d23_31 : decode jdk_52_method_5_code 31 = .ok (.istore_n 1, 1) := by decide +kernel
theorem d23_32 : decode jdk_52_method_5_code 32 = .ok (.aload_n 0, 1) := by decide +kernel
theorem d23_33 : decode jdk_52_method_5_code 33 = .ok (.iload_n 1, 1) := by decide +kernel
theorem d23_34 : decode jdk_52_method_5_code 34 = .ok (.iinc 1 1, 3) := by decide +kernel
theorem d23_37 : decode jdk_52_method_5_code 37 = .ok (.baload, 1) := by decide +kernel
theorem d23_38 : decode jdk_52_method_5_code 38 = .ok (.sipush 255, 3) := by decide +kernel
theorem d23_41 : decode jdk_52_method_5_code 41 = .ok (.iand, 1) := by decide +kernel
theorem d23_42 : decode jdk_52_method_5_code 42 = .ok (.getstatic 59, 3) := by decide +kernel
theorem d23_45 : decode jdk_52_method_5_code 45 = .ok (.ishl, 1) := by decide +kernel
theorem d23_46 : decode jdk_52_method_5_code 46 = .ok (.aload_n 0, 1) := by decide +kernel
theorem d23_47 : decode jdk_52_method_5_code 47 = .ok (.iload_n 1, 1) := by decide +kernel
theorem d23_48 : decode jdk_52_method_5_code 48 = .ok (.baload, 1) := by decide +kernel
theorem d23_49 : decode jdk_52_method_5_code 49 = .ok (.sipush 255, 3) := by decide +kernel
theorem d23_52 : decode jdk_52_method_5_code 52 = .ok (.iand, 1) := by decide +kernel
theorem d23_53 : decode jdk_52_method_5_code 53 = .ok (.getstatic 63, 3) := by decide +kernel
theorem d23_56 : decode jdk_52_method_5_code 56 = .ok (.ishl, 1) := by decide +kernel
theorem d23_57 : decode jdk_52_method_5_code 57 = .ok (.ior, 1) := by decide +kernel
theorem d23_58 : decode jdk_52_method_5_code 58 = .ok (.i2c, 1) := by decide +kernel
theorem d23_59 : decode jdk_52_method_5_code 59 = .ok (.ireturn, 1) := by decide +kernel
theorem ef_rmGet (m : MethodId) (o0 : Addr) (i : Nat) : entryFrame m #[(.ref o0), (.int (Int32.ofNat i))] 2 = mkF m 0 #[.val (.ref o0), .val (.int (Int32.ofNat i))] [] := by first | (simp [entryFrame, mkF, argsToLocals, Value.category]; done) | rfl
def QrmGet (Z : State) (o0 : Addr) (i : Nat) (kb : ClassId) (cs : List Int32) (h0 : Heap) (n0 : Nat) (v : Option Value) (h : Heap) (L : List Loc) : Prop := v = some (.int (cs.getD i 0)) ∧ Fr n0 L ∧ h = h0
set_option maxRecDepth 65536 in
set_option maxHeartbeats 40000000 in
theorem rmGet (l : Launch) (Z : State) (a0 : Array Value) (hw : ∀ d ∈ tables_1, d.before a0 Z = true) (ws : List Jvm.Cond) (o0 : Addr) (i : Nat) (kb : ClassId) (cs : List Int32) (h0 : Heap) (n0 : Nat) (Z0 : n0 ≤ h0.size) (H0 : Sta Z h0 "java/lang/StringUTF16" "$assertionsDisabled" "Z" (.int (1 : Int32))) (H1 : Sta Z h0 "java/lang/StringUTF16" "HI_BYTE_SHIFT" "I" (.int (0 : Int32))) (H2 : Sta Z h0 "java/lang/StringUTF16" "LO_BYTE_SHIFT" "I" (.int (8 : Int32))) (H3 : Arv Z h0 o0 kb .byte (Int32.ofNat (2 * cs.length)) (wideBytes cs) (.int (0 : Int32))) (hi : i < cs.length) (hn : cs.length ≤ 1000) (hbd : ¬ ((cs.getD i 0) < 0) ∧ ¬ ((65535 : Int32) < (cs.getD i 0))) :
    MetFree l (⟨"java/lang/StringUTF16", "getChar", "([BI)C"⟩ : MethodName) (head1 (Jvm.Cond.code (⟨"java/lang/StringUTF16", "getChar", "([BI)C"⟩ : MethodName) jdk_52_method_5_code 2 (some .char) :: ws) ({ frames := 0, cells := 0, slots := 0, locals := 0 } : Room)) (fun a U => a = #[(.ref o0), (.int (Int32.ofNat i))] ∧ Z.Warmed39 U.vm ∧ U.heap = h0) (fun _ _ _ _ _ => True) (fun _ U o U' => ∃ v L, o = .returned v ∧ QrmGet Z o0 i kb cs h0 n0 v U'.heap L ∧ FrameEnd U o U' L ({ frames := 0, cells := 0, slots := 0, locals := 0 } : Room).cells ({ frames := 0, cells := 0, slots := 0, locals := 0 } : Room).slots) := by
  refine MetFree.of_bodySF (plainFor_of_name pn_22) hisR ?_
  intro p e s m args below meth c s₁ Bd hml0 hP hK
  obtain ⟨rfl, hZ, hh⟩ := hP
  have hx := Bd.exec
  have hby := Bd.bytes
  have hml : c.maxLocals = 2 := hml0
  have hown : s.vm.findClass "java/lang/StringUTF16" = some m.cls := findClass_of_methodNamed Bd.named
  have hnm := (name_of_methodNamed Bd.named Bd.method).1
  have X0 : Stand p l e ({ frames := 0, cells := 0, slots := 0, locals := 0 } : Room) s m #[(.ref o0), (.int (Int32.ofNat i))] below meth c s₁ [] 0 0 := Stand.of_body Bd
  have e0 : s₁.heap = h0 := by rw [← hh, Bd.state]; rfl
  have N0 := Fr.nil n0
  have pre0 : ∀ t, Steps p.tables e below (s₁.setTop (mkF m 0 #[.val (.ref o0), .val (.int (Int32.ofNat i))] [])) t → Steps p.tables e below (s₁.setTop (entryFrame m #[(.ref o0), (.int (Int32.ofNat i))] 2)) t := fun t k => castTop (ef_rmGet m o0 i) k
  have z18 : @LT.lt Nat _ o0 (Array.size h0) := H3.lt
  have KC0 : Keep h0 h0 [] := Keep.refl _ _
  obtain ⟨T19, X19, e19, st19⟩ := getS2 X0 hx hZ hown (host := "") (Or.inl (hw _ (List.mem_of_getElem? (i := 101) rfl))) Via.refl e0 H0 (g := (mkF m 0 #[.val (.ref o0), .val (.int (Int32.ofNat i))] [])) rfl (hb hby d23_0)
  have pre20 : ∀ t, Steps p.tables e below (T19.setTop (mkF m 32 #[.val (.ref o0), .val (.int ((Int32.ofNat i) <<< ((1 : Int32) &&& 31)))] [])) t → Steps p.tables e below (s₁.setTop (entryFrame m #[(.ref o0), (.int (Int32.ofNat i))] 2)) t := fun t k => by
    refine pre0 _ ?_
    show Steps p.tables e below (s₁.setTop (mkF m 0 #[.val (.ref o0), .val (.int (Int32.ofNat i))] [])) _
    refine st19 _ ?_
    show Steps p.tables e below (T19.setTop (mkF m 3 #[.val (.ref o0), .val (.int (Int32.ofNat i))] [(.int (1 : Int32))])) _
    refine XS.ifYes X19.here hx rfl (pc0 := 3) (pc' := 28) rfl (hb hby d23_3) rfl ((if0 _ _).trans (feq (by decide : ¬ ((1 : Int32) = (0 : Int32)))).2) (by decide) (by decide) ?_
    show Steps p.tables e below (T19.setTop (mkF m 28 #[.val (.ref o0), .val (.int (Int32.ofNat i))] [])) _
    refine XS.iloadN X19.here hx rfl (hb hby d23_28) rfl ?_
    show Steps p.tables e below (T19.setTop (mkF m 29 #[.val (.ref o0), .val (.int (Int32.ofNat i))] [(.int (Int32.ofNat i))])) _
    refine XS.iconst X19.here hx rfl (hb hby d23_29) ?_
    show Steps p.tables e below (T19.setTop (mkF m 30 #[.val (.ref o0), .val (.int (Int32.ofNat i))] [(.int (1 : Int32)), (.int (Int32.ofNat i))])) _
    refine XS.ishl X19.here hx rfl (hb hby d23_30) rfl ?_
    show Steps p.tables e below (T19.setTop (mkF m 31 #[.val (.ref o0), .val (.int (Int32.ofNat i))] [(.int ((Int32.ofNat i) <<< ((1 : Int32) &&& 31)))])) _
    refine XS.istoreN X19.here hx rfl (hb hby d23_31) rfl (l' := #[.val (.ref o0), .val (.int ((Int32.ofNat i) <<< ((1 : Int32) &&& 31)))]) rfl ?_
    exact k
  have pre21 : ∀ t, Steps p.tables e below (T19.setTop (mkF m 32 #[.val (.ref o0), .val (.int (Int32.ofNat (2 * i)))] [])) t → Steps p.tables e below (s₁.setTop (entryFrame m #[(.ref o0), (.int (Int32.ofNat i))] 2)) t := fun t k => pre20 t (by rw [own_shl1 (by omega)]; exact k)
  have pre22 : ∀ t, Steps p.tables e below (T19.setTop (mkF m 37 #[.val (.ref o0), .val (.int ((Int32.ofNat (2 * i)) + (1 : Int32)))] [(.int (Int32.ofNat (2 * i))), (.ref o0)])) t → Steps p.tables e below (s₁.setTop (entryFrame m #[(.ref o0), (.int (Int32.ofNat i))] 2)) t := fun t k => by
    refine pre21 _ ?_
    show Steps p.tables e below (T19.setTop (mkF m 32 #[.val (.ref o0), .val (.int (Int32.ofNat (2 * i)))] [])) _
    refine XS.aloadN X19.here hx rfl (hb hby d23_32) rfl rfl ?_
    show Steps p.tables e below (T19.setTop (mkF m 33 #[.val (.ref o0), .val (.int (Int32.ofNat (2 * i)))] [(.ref o0)])) _
    refine XS.iloadN X19.here hx rfl (hb hby d23_33) rfl ?_
    show Steps p.tables e below (T19.setTop (mkF m 34 #[.val (.ref o0), .val (.int (Int32.ofNat (2 * i)))] [(.int (Int32.ofNat (2 * i))), (.ref o0)])) _
    refine XS.iinc X19.here hx rfl (hb hby d23_34) rfl (l' := #[.val (.ref o0), .val (.int ((Int32.ofNat (2 * i)) + (1 : Int32)))]) rfl ?_
    exact k
  have pre23 : ∀ t, Steps p.tables e below (T19.setTop (mkF m 37 #[.val (.ref o0), .val (.int (Int32.ofNat (2 * i + 1)))] [(.int (Int32.ofNat (2 * i))), (.ref o0)])) t → Steps p.tables e below (s₁.setTop (entryFrame m #[(.ref o0), (.int (Int32.ofNat i))] 2)) t := fun t k => pre22 t (by rw [own_inc (by omega)]; exact k)
  obtain ⟨cl24, Ar24, q24, S24, N24', H24, G24⟩ := id H3
  have hin24 : ¬ ((Int32.ofNat (2 * i)) < 0 ∨ cl24.slots.size ≤ ((Int32.ofNat (2 * i))).toNatClampNeg) := inb_of S24 (own_in (by omega) (by omega))
  have hat24 : cl24.slots[((Int32.ofNat (2 * i))).toNatClampNeg]? = some (.int (lo8 (cs.getD i 0))) := H24.at hin24 (by rw [own_tn (by omega)]; exact wide_lo _ cs i hi)
  obtain ⟨T25, X25, e25, st25⟩ := getS2 X19 hx hZ hown (host := "") (Or.inl (hw _ (List.mem_of_getElem? (i := 102) rfl))) Via.refl e19 H1 (g := (mkF m 42 #[.val (.ref o0), .val (.int (Int32.ofNat (2 * i + 1)))] [(.int ((lo8 (cs.getD i 0)) &&& (255 : Int32)))])) rfl (hb hby d23_42)
  obtain ⟨cl26, Ar26, q26, S26, N26', H26, G26⟩ := id H3
  have hin26 : ¬ ((Int32.ofNat (2 * i + 1)) < 0 ∨ cl26.slots.size ≤ ((Int32.ofNat (2 * i + 1))).toNatClampNeg) := inb_of S26 (own_in (by omega) (by omega))
  have hat26 : cl26.slots[((Int32.ofNat (2 * i + 1))).toNatClampNeg]? = some (.int (hi8 (cs.getD i 0))) := H26.at hin26 (by rw [own_tn (by omega)]; exact wide_hi _ cs i hi)
  obtain ⟨T27, X27, e27, st27⟩ := getS2 X25 hx hZ hown (host := "") (Or.inl (hw _ (List.mem_of_getElem? (i := 103) rfl))) Via.refl e25 H2 (g := (mkF m 53 #[.val (.ref o0), .val (.int (Int32.ofNat (2 * i + 1)))] [(.int ((hi8 (cs.getD i 0)) &&& (255 : Int32))), (.int (((lo8 (cs.getD i 0)) &&& (255 : Int32)) <<< ((0 : Int32) &&& 31)))])) rfl (hb hby d23_53)
  obtain ⟨fs, hr, hrun, hended, hW, hsame⟩ := X27.leave (v := some (.int (nar .char (((((lo8 (cs.getD i 0)) &&& (255 : Int32)) <<< ((0 : Int32) &&& 31)) ||| (((hi8 (cs.getD i 0)) &&& (255 : Int32)) <<< ((8 : Int32) &&& 31))).toUInt32.toUInt16.toUInt32.toInt32)))) (fun h => by rw [Bd.returns] at h; cases h)
  refine ⟨_, _, pre23 _ ?_, hrun, hended, _, _, rfl, ?_, ⟨_, rfl⟩, hW, hsame.mono (by decide) (by decide)⟩
  · show Steps p.tables e below (T19.setTop (mkF m 37 #[.val (.ref o0), .val (.int (Int32.ofNat (2 * i + 1)))] [(.int (Int32.ofNat (2 * i))), (.ref o0)])) _
    refine X19.baloadBytes hx (j := (Int32.ofNat (2 * i))) (v := (.int (lo8 (cs.getD i 0)))) (by rw [e19]; exact Ar24.1) (State.isArrayOf_alike hZ.alike Ar24.2.1) Ar24.2.2 hin24 hat24 (g := (mkF m 37 #[.val (.ref o0), .val (.int (Int32.ofNat (2 * i + 1)))] [(.int (Int32.ofNat (2 * i))), (.ref o0)])) rfl rfl (hb hby d23_37) _ ?_
    show Steps p.tables e below (T19.setTop (mkF m 38 #[.val (.ref o0), .val (.int (Int32.ofNat (2 * i + 1)))] [(.int (lo8 (cs.getD i 0)))])) _
    refine XS.sipush X19.here hx rfl (hb hby d23_38) ?_
    show Steps p.tables e below (T19.setTop (mkF m 41 #[.val (.ref o0), .val (.int (Int32.ofNat (2 * i + 1)))] [(.int (255 : Int32)), (.int (lo8 (cs.getD i 0)))])) _
    refine XS.iand X19.here hx rfl (hb hby d23_41) rfl ?_
    show Steps p.tables e below (T19.setTop (mkF m 42 #[.val (.ref o0), .val (.int (Int32.ofNat (2 * i + 1)))] [(.int ((lo8 (cs.getD i 0)) &&& (255 : Int32)))])) _
    refine st25 _ ?_
    show Steps p.tables e below (T25.setTop (mkF m 45 #[.val (.ref o0), .val (.int (Int32.ofNat (2 * i + 1)))] [(.int (0 : Int32)), (.int ((lo8 (cs.getD i 0)) &&& (255 : Int32)))])) _
    refine XS.ishl X25.here hx rfl (hb hby d23_45) rfl ?_
    show Steps p.tables e below (T25.setTop (mkF m 46 #[.val (.ref o0), .val (.int (Int32.ofNat (2 * i + 1)))] [(.int (((lo8 (cs.getD i 0)) &&& (255 : Int32)) <<< ((0 : Int32) &&& 31)))])) _
    refine XS.aloadN X25.here hx rfl (hb hby d23_46) rfl rfl ?_
    show Steps p.tables e below (T25.setTop (mkF m 47 #[.val (.ref o0), .val (.int (Int32.ofNat (2 * i + 1)))] [(.ref o0), (.int (((lo8 (cs.getD i 0)) &&& (255 : Int32)) <<< ((0 : Int32) &&& 31)))])) _
    refine XS.iloadN X25.here hx rfl (hb hby d23_47) rfl ?_
    show Steps p.tables e below (T25.setTop (mkF m 48 #[.val (.ref o0), .val (.int (Int32.ofNat (2 * i + 1)))] [(.int (Int32.ofNat (2 * i + 1))), (.ref o0), (.int (((lo8 (cs.getD i 0)) &&& (255 : Int32)) <<< ((0 : Int32) &&& 31)))])) _
    refine X25.baloadBytes hx (j := (Int32.ofNat (2 * i + 1))) (v := (.int (hi8 (cs.getD i 0)))) (by rw [e25]; exact Ar26.1) (State.isArrayOf_alike hZ.alike Ar26.2.1) Ar26.2.2 hin26 hat26 (g := (mkF m 48 #[.val (.ref o0), .val (.int (Int32.ofNat (2 * i + 1)))] [(.int (Int32.ofNat (2 * i + 1))), (.ref o0), (.int (((lo8 (cs.getD i 0)) &&& (255 : Int32)) <<< ((0 : Int32) &&& 31)))])) rfl rfl (hb hby d23_48) _ ?_
    show Steps p.tables e below (T25.setTop (mkF m 49 #[.val (.ref o0), .val (.int (Int32.ofNat (2 * i + 1)))] [(.int (hi8 (cs.getD i 0))), (.int (((lo8 (cs.getD i 0)) &&& (255 : Int32)) <<< ((0 : Int32) &&& 31)))])) _
    refine XS.sipush X25.here hx rfl (hb hby d23_49) ?_
    show Steps p.tables e below (T25.setTop (mkF m 52 #[.val (.ref o0), .val (.int (Int32.ofNat (2 * i + 1)))] [(.int (255 : Int32)), (.int (hi8 (cs.getD i 0))), (.int (((lo8 (cs.getD i 0)) &&& (255 : Int32)) <<< ((0 : Int32) &&& 31)))])) _
    refine XS.iand X25.here hx rfl (hb hby d23_52) rfl ?_
    show Steps p.tables e below (T25.setTop (mkF m 53 #[.val (.ref o0), .val (.int (Int32.ofNat (2 * i + 1)))] [(.int ((hi8 (cs.getD i 0)) &&& (255 : Int32))), (.int (((lo8 (cs.getD i 0)) &&& (255 : Int32)) <<< ((0 : Int32) &&& 31)))])) _
    refine st27 _ ?_
    show Steps p.tables e below (T27.setTop (mkF m 56 #[.val (.ref o0), .val (.int (Int32.ofNat (2 * i + 1)))] [(.int (8 : Int32)), (.int ((hi8 (cs.getD i 0)) &&& (255 : Int32))), (.int (((lo8 (cs.getD i 0)) &&& (255 : Int32)) <<< ((0 : Int32) &&& 31)))])) _
    refine XS.ishl X27.here hx rfl (hb hby d23_56) rfl ?_
    show Steps p.tables e below (T27.setTop (mkF m 57 #[.val (.ref o0), .val (.int (Int32.ofNat (2 * i + 1)))] [(.int (((hi8 (cs.getD i 0)) &&& (255 : Int32)) <<< ((8 : Int32) &&& 31))), (.int (((lo8 (cs.getD i 0)) &&& (255 : Int32)) <<< ((0 : Int32) &&& 31)))])) _
    refine XS.ior X27.here hx rfl (hb hby d23_57) rfl ?_
    show Steps p.tables e below (T27.setTop (mkF m 58 #[.val (.ref o0), .val (.int (Int32.ofNat (2 * i + 1)))] [(.int ((((lo8 (cs.getD i 0)) &&& (255 : Int32)) <<< ((0 : Int32) &&& 31)) ||| (((hi8 (cs.getD i 0)) &&& (255 : Int32)) <<< ((8 : Int32) &&& 31))))])) _
    refine XS.i2c X27.here hx rfl (hb hby d23_58) rfl ?_
    show Steps p.tables e below (T27.setTop (mkF m 59 #[.val (.ref o0), .val (.int (Int32.ofNat (2 * i + 1)))] [(.int (((((lo8 (cs.getD i 0)) &&& (255 : Int32)) <<< ((0 : Int32) &&& 31)) ||| (((hi8 (cs.getD i 0)) &&& (255 : Int32)) <<< ((8 : Int32) &&& 31))).toUInt32.toUInt16.toUInt32.toInt32))])) _
    exact retN X27 hx (t := .char) Bd.returns (by simp) (hb hby d23_59) hr
  · show QrmGet Z o0 i kb cs h0 n0 _ T27.heap _
    rw [e27]
    exact ⟨(congrArg (fun z => some (Value.int z)) ((congrArg (nar .char) (pair_says hbd.1 hbd.2)).trans (own_narw _ hbd))), N0, rfl⟩
theorem d21_0 : decode jdk_52_method_3_code 0 = .ok (.iload_n 0, 1) := by decide +kernel
theorem d21_1 : decode jdk_52_method_3_code 1 = .ok (.ifCond .ge 11, 3) := by decide +kernel
theorem d21_12 : decode jdk_52_method_3_code 12 = .ok (.iload_n 0, 1) := by decide +kernel
theorem d21_13 : decode jdk_52_method_3_code 13 = .ok (.ldc 20, 2) := by decide +kernel
theorem d21_15 : decode jdk_52_method_3_code 15 = .ok (.if_icmp .lt 40, 3) := by decide +kernel
theorem d21_55 : decode jdk_52_method_3_code 55 = .ok (.iload_n 0, 1) := by decide +kernel
theorem d21_56 : decode jdk_52_method_3_code 56 = .ok (.iconst 1, 1) := by decide +kernel
theorem d21_57 : decode jdk_52_method_3_code 57 = .ok (.ishl, 1) := by decide +kernel
theorem d21_58 : decode jdk_52_method_3_code 58 = .ok (.ireturn, 1) := by decide +kernel
theorem ef_rmNbl (m : MethodId) (n : Nat) : entryFrame m #[(.int (Int32.ofNat n))] 1 = mkF m 0 #[.val (.int (Int32.ofNat n))] [] := by first | (simp [entryFrame, mkF, argsToLocals, Value.category]; done) | rfl
def QrmNbl (Z : State) (n : Nat) (h0 : Heap) (n0 : Nat) (v : Option Value) (h : Heap) (L : List Loc) : Prop := v = some (.int (Int32.ofNat (2 * n))) ∧ Fr n0 L ∧ h = h0
set_option maxRecDepth 65536 in
set_option maxHeartbeats 40000000 in
theorem rmNbl (l : Launch) (Z : State) (a0 : Array Value) (hw : ∀ d ∈ tables_1, d.before a0 Z = true) (ws : List Jvm.Cond) (n : Nat) (h0 : Heap) (n0 : Nat) (Z0 : n0 ≤ h0.size) (hn : n ≤ 12) :
    MetFree l (⟨"java/lang/StringUTF16", "newBytesLength", "(I)I"⟩ : MethodName) (head1 (Jvm.Cond.code (⟨"java/lang/StringUTF16", "newBytesLength", "(I)I"⟩ : MethodName) jdk_52_method_3_code 1 (some .int) :: ws) ({ frames := 0, cells := 0, slots := 0, locals := 0 } : Room)) (fun a U => a = #[(.int (Int32.ofNat n))] ∧ Z.Warmed39 U.vm ∧ U.heap = h0) (fun _ _ _ _ _ => True) (fun _ U o U' => ∃ v L, o = .returned v ∧ QrmNbl Z n h0 n0 v U'.heap L ∧ FrameEnd U o U' L ({ frames := 0, cells := 0, slots := 0, locals := 0 } : Room).cells ({ frames := 0, cells := 0, slots := 0, locals := 0 } : Room).slots) := by
  refine MetFree.of_bodySF (plainFor_of_name pn_22) hisR ?_
  intro p e s m args below meth c s₁ Bd hml0 hP hK
  obtain ⟨rfl, hZ, hh⟩ := hP
  have hx := Bd.exec
  have hby := Bd.bytes
  have hml : c.maxLocals = 1 := hml0
  have hown : s.vm.findClass "java/lang/StringUTF16" = some m.cls := findClass_of_methodNamed Bd.named
  have hnm := (name_of_methodNamed Bd.named Bd.method).1
  have X0 : Stand p l e ({ frames := 0, cells := 0, slots := 0, locals := 0 } : Room) s m #[(.int (Int32.ofNat n))] below meth c s₁ [] 0 0 := Stand.of_body Bd
  have e0 : s₁.heap = h0 := by rw [← hh, Bd.state]; rfl
  have N0 := Fr.nil n0
  have pre0 : ∀ t, Steps p.tables e below (s₁.setTop (mkF m 0 #[.val (.int (Int32.ofNat n))] [])) t → Steps p.tables e below (s₁.setTop (entryFrame m #[(.int (Int32.ofNat n))] 1)) t := fun t k => castTop (ef_rmNbl m n) k
  have KC0 : Keep h0 h0 [] := Keep.refl _ _
  have pre28 : ∀ t, Steps p.tables e below (s₁.setTop (mkF m 58 #[.val (.int (Int32.ofNat n))] [(.int ((Int32.ofNat n) <<< ((1 : Int32) &&& 31)))])) t → Steps p.tables e below (s₁.setTop (entryFrame m #[(.int (Int32.ofNat n))] 1)) t := fun t k => by
    refine pre0 _ ?_
    show Steps p.tables e below (s₁.setTop (mkF m 0 #[.val (.int (Int32.ofNat n))] [])) _
    refine XS.iloadN X0.here hx rfl (hb hby d21_0) rfl ?_
    show Steps p.tables e below (s₁.setTop (mkF m 1 #[.val (.int (Int32.ofNat n))] [(.int (Int32.ofNat n))])) _
    refine XS.ifYes X0.here hx rfl (pc0 := 1) (pc' := 12) rfl (hb hby d21_1) rfl ((if0 _ _).trans (flt ((fun k => by rw [Int32.lt_iff_toInt_lt, own_nat (by omega)] at k; have e0 : (0 : Int32).toInt = 0 := rfl; omega) : ¬ ((Int32.ofNat n) < (0 : Int32)))).2.1) (by decide) (by decide) ?_
    show Steps p.tables e below (s₁.setTop (mkF m 12 #[.val (.int (Int32.ofNat n))] [])) _
    refine XS.iloadN X0.here hx rfl (hb hby d21_12) rfl ?_
    show Steps p.tables e below (s₁.setTop (mkF m 13 #[.val (.int (Int32.ofNat n))] [(.int (Int32.ofNat n))])) _
    refine X0.ldcInt hx hown (mvT hZ (hw _ (List.mem_of_getElem? (i := 97) rfl))) (g := (mkF m 13 #[.val (.int (Int32.ofNat n))] [(.int (Int32.ofNat n))])) rfl (hb hby d21_13) _ ?_
    show Steps p.tables e below (s₁.setTop (mkF m 15 #[.val (.int (Int32.ofNat n))] [(.int (1073741823 : Int32)), (.int (Int32.ofNat n))])) _
    refine XS.icmpYes X0.here hx rfl (pc0 := 15) (pc' := 55) rfl (hb hby d21_15) rfl (tlt ((by rw [Int32.lt_iff_toInt_lt, own_nat (by omega)]; have e0 : (1073741823 : Int32).toInt = 1073741823 := rfl; omega) : (Int32.ofNat n) < (1073741823 : Int32))).1 (by decide) (by decide) ?_
    show Steps p.tables e below (s₁.setTop (mkF m 55 #[.val (.int (Int32.ofNat n))] [])) _
    refine XS.iloadN X0.here hx rfl (hb hby d21_55) rfl ?_
    show Steps p.tables e below (s₁.setTop (mkF m 56 #[.val (.int (Int32.ofNat n))] [(.int (Int32.ofNat n))])) _
    refine XS.iconst X0.here hx rfl (hb hby d21_56) ?_
    show Steps p.tables e below (s₁.setTop (mkF m 57 #[.val (.int (Int32.ofNat n))] [(.int (1 : Int32)), (.int (Int32.ofNat n))])) _
    refine XS.ishl X0.here hx rfl (hb hby d21_57) rfl ?_
    exact k
  have pre29 : ∀ t, Steps p.tables e below (s₁.setTop (mkF m 58 #[.val (.int (Int32.ofNat n))] [(.int (Int32.ofNat (2 * n)))])) t → Steps p.tables e below (s₁.setTop (entryFrame m #[(.int (Int32.ofNat n))] 1)) t := fun t k => pre28 t (by rw [own_shl1 (by omega)]; exact k)
  obtain ⟨fs, hr, hrun, hended, hW, hsame⟩ := X0.leave (v := some (.int (Int32.ofNat (2 * n)))) (fun h => by rw [Bd.returns] at h; cases h)
  refine ⟨_, _, pre29 _ ?_, hrun, hended, _, _, rfl, ?_, ⟨_, rfl⟩, hW, hsame.mono (by decide) (by decide)⟩
  · show Steps p.tables e below (s₁.setTop (mkF m 58 #[.val (.int (Int32.ofNat n))] [(.int (Int32.ofNat (2 * n)))])) _
    exact retI X0 hx Bd.returns (hb hby d21_58) hr
  · show QrmNbl Z n h0 n0 _ s₁.heap _
    rw [e0]
    exact ⟨rfl, N0, rfl⟩
theorem d20_0 : decode jdk_52_method_2_code 0 = .ok (.iload_n 0, 1) := by decide +kernel
theorem d20_1 : decode jdk_52_method_2_code 1 = .ok (.invokestatic 11, 3) := by decide +kernel
theorem pd_0 : parseMethodDescriptor "(I)I" = some ⟨[.int], some .int⟩ := by decide +kernel
theorem d20_4 : decode jdk_52_method_2_code 4 = .ok (.newarray .byte, 2) := by decide +kernel
theorem d20_6 : decode jdk_52_method_2_code 6 = .ok (.areturn, 1) := by decide +kernel
theorem ef_rmNbf (m : MethodId) (n : Nat) : entryFrame m #[(.int (Int32.ofNat n))] 1 = mkF m 0 #[.val (.int (Int32.ofNat n))] [] := by first | (simp [entryFrame, mkF, argsToLocals, Value.category]; done) | rfl
def QrmNbf (Z : State) (n : Nat) (h0 : Heap) (n0 : Nat) (v : Option Value) (h : Heap) (L : List Loc) : Prop := ∃ r : Addr, ∃ kb : ClassId, v = some (.ref r) ∧ Fr n0 L ∧ Keep h0 h [] ∧ Arv Z h r kb .byte (Int32.ofNat (2 * n)) (List.replicate (2 * n) (Value.int (0 : Int32))) (.int (0 : Int32)) ∧ (h0.size ≤ r)
set_option maxRecDepth 65536 in
set_option maxHeartbeats 40000000 in
theorem rmNbf (l : Launch) (Z : State) (a0 : Array Value) (hw : ∀ d ∈ tables_1, d.before a0 Z = true) (ws : List Jvm.Cond) (n : Nat) (h0 : Heap) (n0 : Nat) (Z0 : n0 ≤ h0.size) (hn : n ≤ 12) :
    MetFree l (⟨"java/lang/StringUTF16", "newBytesFor", "(I)[B"⟩ : MethodName) (head1 (Jvm.Cond.code (⟨"java/lang/StringUTF16", "newBytesFor", "(I)[B"⟩ : MethodName) jdk_52_method_2_code 1 (some (.array .byte)) :: ws) ({ frames := 1, cells := 1, slots := 24, locals := 12 } : Room)) (fun a U => a = #[(.int (Int32.ofNat n))] ∧ Z.Warmed39 U.vm ∧ U.heap = h0) (fun _ _ _ _ _ => True) (fun _ U o U' => ∃ v L, o = .returned v ∧ QrmNbf Z n h0 n0 v U'.heap L ∧ FrameEnd U o U' L ({ frames := 1, cells := 1, slots := 24, locals := 12 } : Room).cells ({ frames := 1, cells := 1, slots := 24, locals := 12 } : Room).slots) := by
  refine MetFree.of_bodySF (plainFor_of_name pn_22) hisR ?_
  intro p e s m args below meth c s₁ Bd hml0 hP hK
  obtain ⟨rfl, hZ, hh⟩ := hP
  have hx := Bd.exec
  have hby := Bd.bytes
  have hml : c.maxLocals = 1 := hml0
  have hown : s.vm.findClass "java/lang/StringUTF16" = some m.cls := findClass_of_methodNamed Bd.named
  have hnm := (name_of_methodNamed Bd.named Bd.method).1
  have X0 : Stand p l e ({ frames := 1, cells := 1, slots := 24, locals := 12 } : Room) s m #[(.int (Int32.ofNat n))] below meth c s₁ [] 0 0 := Stand.of_body Bd
  have e0 : s₁.heap = h0 := by rw [← hh, Bd.state]; rfl
  have N0 := Fr.nil n0
  have pre0 : ∀ t, Steps p.tables e below (s₁.setTop (mkF m 0 #[.val (.int (Int32.ofNat n))] [])) t → Steps p.tables e below (s₁.setTop (entryFrame m #[(.int (Int32.ofNat n))] 1)) t := fun t k => castTop (ef_rmNbf m n) k
  have KC0 : Keep h0 h0 [] := Keep.refl _ _
  obtain ⟨_, _, ⟨T30, L30, k30, n30⟩, -, X30, ⟨Lc30, hQ30, l30, y30, z30⟩, st30⟩ := Jvm.LawKit.callS X0 hx (y := (⟨"java/lang/StringUTF16", "newBytesLength", "(I)I"⟩ : MethodName)) hown (mvT hZ (hw _ (List.mem_of_getElem? (i := 94) rfl))) (mvT hZ (hw _ (List.mem_of_getElem? (i := 95) rfl))) (mvT hZ (hw _ (List.mem_of_getElem? (i := 80) rfl))) (mvT hZ (hw _ (List.mem_of_getElem? (i := 96) rfl))) (by decide) (backOf (W := 0) (rmNbl l Z a0 hw [] n h0 n0 (by omega) (hn : n ≤ 12)) hZ (hw _ (List.mem_of_getElem? (i := 96) rfl)) (hw _ (List.mem_of_getElem? (i := 80) rfl)) (by decide) (by decide)) (g := (mkF m 1 #[.val (.int (Int32.ofNat n))] [(.int (Int32.ofNat n))])) rfl (by rw [hml]; rfl) (argsL := [(.int (Int32.ofNat n))]) (rest := []) (lenOf pd_0 rfl) rfl (by show 2 * 0 + _ ≤ _; exact Nat.le_of_eq rfl) (hb hby d20_1) (fun _ _ => ⟨rfl, e0, (by decide : 0 + 0 ≤ _), (by decide : 0 + 0 ≤ _)⟩)
  dsimp only [Pt.U, Pt.locs, Pt.cells, Pt.slots] at X30 l30 y30 z30 st30 hQ30
  subst l30 y30 z30
  obtain ⟨rfl, N30q, e30⟩ := hQ30
  have N30 := Fr.app N0 N30q
  obtain ⟨T31, h31, k31, X31, e31, E31, A31, st31⟩ := newP X30 hx hZ (hw _ (List.mem_of_getElem? (i := 16) rfl)) e30 (g := (mkF m 4 #[.val (.int (Int32.ofNat n))] [(.int (Int32.ofNat (2 * n)))])) rfl (hb hby d20_4) rfl (fun k => by rw [Int32.lt_iff_toInt_lt, own_nat (by omega)] at k; have e0 : (0 : Int32).toInt = 0 := rfl; omega) (cap := 24) (by rw [own_tn (by omega)]; omega) (by decide) (by decide) (by decide)
  obtain ⟨b31, g31⟩ : ∃ z, z = h0.size := ⟨_, rfl⟩
  rw [← g31] at A31 st31
  have z32 := E31.1
  have KC33 : Keep h0 h31 [] := KC0.ext E31
  have V31 : Arv Z h31 b31 k31 .byte (Int32.ofNat (2 * n)) (List.replicate (2 * n) (Value.int (0 : Int32))) (.int (0 : Int32)) := (Arv.new A31 (fun k => by rw [Int32.lt_iff_toInt_lt, own_nat (by omega)] at k; have e0 : (0 : Int32).toInt = 0 := rfl; omega)).pad (pad_rep [] (.int (0 : Int32)) ((2 * n)))
  have z34 : @LT.lt Nat _ b31 (Array.size h31) := V31.lt
  obtain ⟨fs, hr, hrun, hended, hW, hsame⟩ := X31.leave (v := some (.ref b31)) (fun h => by rw [Bd.returns] at h; cases h)
  refine ⟨_, _, pre0 _ ?_, hrun, hended, _, _, rfl, ?_, ⟨_, rfl⟩, hW, hsame.mono (by decide) (by decide)⟩
  · show Steps p.tables e below (s₁.setTop (mkF m 0 #[.val (.int (Int32.ofNat n))] [])) _
    refine XS.iloadN X0.here hx rfl (hb hby d20_0) rfl ?_
    show Steps p.tables e below (s₁.setTop (mkF m 1 #[.val (.int (Int32.ofNat n))] [(.int (Int32.ofNat n))])) _
    refine st30 _ ?_
    show Steps p.tables e below (T30.setTop (mkF m 4 #[.val (.int (Int32.ofNat n))] [(.int (Int32.ofNat (2 * n)))])) _
    refine st31 _ ?_
    show Steps p.tables e below (T31.setTop (mkF m 6 #[.val (.int (Int32.ofNat n))] [(.ref b31)])) _
    jvm_step X31.here [X31.here.top, hx, (hb hby d20_6), X31.method', Bd.returns, Value.isRef, FieldType.isReference]
    first | (intro acts; rw [hr _ acts rfl rfl rfl]) | rw [hr _ _ rfl rfl rfl]
    exact Steps.refl _
  · show QrmNbf Z n h0 n0 _ T31.heap _
    rw [e31]
    exact ⟨b31, k31, rfl, N30, KC33, V31, (by first | omega | decide | assumption : h0.size ≤ b31)⟩
theorem own_wl : ∀ cs : List Int32, (wideBytes cs).length = 2 * cs.length
  | [] => rfl
  | c :: cs => by show ((wideBytes cs).length + 1) + 1 = 2 * (cs.length + 1); rw [own_wl cs]; omega
theorem own_wa : ∀ (a b : List Int32), wideBytes (a ++ b) = wideBytes a ++ wideBytes b
  | [], b => rfl
  | c :: a, b => by show Value.int (lo8 c) :: Value.int (hi8 c) :: wideBytes (a ++ b) = _; rw [own_wa a b]; rfl
def own_pre (cs : List Int32) (i : Nat) : List Value := wideBytes (cs.take i) ++ List.replicate (2 * (cs.length - i)) (Value.int (0 : Int32))
theorem own_prel (cs : List Int32) (i : Nat) (h : i ≤ cs.length) : (own_pre cs i).length = 2 * cs.length := by
  simp only [own_pre, List.length_append, own_wl, List.length_take, List.length_replicate]; omega
theorem own_pre0 (cs : List Int32) : own_pre cs 0 = List.replicate (2 * cs.length) (Value.int (0 : Int32)) := by simp [own_pre, wideBytes]
theorem own_pren (cs : List Int32) : own_pre cs cs.length = wideBytes cs := by simp [own_pre]
theorem own_step (cs : List Int32) (i : Nat) (h : i < cs.length) : List.set (List.set (own_pre cs i) (2 * i) (.int (lo8 (cs.getD i 0)))) (2 * i + 1) (.int (hi8 (cs.getD i 0))) = own_pre cs (i + 1) := by
  have e1 : (wideBytes (cs.take i)).length = 2 * i := by rw [own_wl, List.length_take]; omega
  have e2 : List.replicate (2 * (cs.length - i)) (Value.int (0 : Int32)) = Value.int 0 :: Value.int 0 :: List.replicate (2 * (cs.length - (i + 1))) (Value.int (0 : Int32)) := by
    rw [show 2 * (cs.length - i) = (2 * (cs.length - (i + 1)) + 1) + 1 from by omega]; rfl
  have e3 : cs.take (i + 1) = cs.take i ++ [cs.getD i 0] := by
    rw [List.take_succ]
    congr 1
    simp [List.getD_eq_getElem?_getD, h]
  have e4 : own_pre cs (i + 1) = wideBytes (cs.take i) ++ (Value.int (lo8 (cs.getD i 0)) :: Value.int (hi8 (cs.getD i 0)) :: List.replicate (2 * (cs.length - (i + 1))) (Value.int (0 : Int32))) := by
    unfold own_pre; rw [e3, own_wa, List.append_assoc]; rfl
  rw [e4]
  unfold own_pre
  rw [e2, List.set_append_right _ _ (by omega), List.set_append_right _ _ (by omega), e1, show 2 * i - 2 * i = 0 from by omega, show 2 * i + 1 - 2 * i = 1 from by omega]
  rfl
theorem d19_0 : decode jdk_52_method_14_code 0 = .ok (.iload_n 2, 1) := by decide +kernel
theorem d19_1 : decode jdk_52_method_14_code 1 = .ok (.invokestatic 107, 3) := by decide +kernel
theorem pd_1 : parseMethodDescriptor "(I)[B" = some ⟨[.int], some (.array .byte)⟩ := by decide +kernel
theorem d19_4 : decode jdk_52_method_14_code 4 = .ok (.astore_n 3, 1) := by decide +kernel
theorem d19_5 : decode jdk_52_method_14_code 5 = .ok (.iconst 0, 1) := by decide +kernel
theorem d19_6 : decode jdk_52_method_14_code 6 = .ok (.istore 4, 2) := by decide +kernel
theorem d19_8 : decode jdk_52_method_14_code 8 = .ok (.iload 4, 2) := by decide +kernel
theorem d19_10 : decode jdk_52_method_14_code 10 = .ok (.iload_n 2, 1) := by decide +kernel
theorem d19_11 : decode jdk_52_method_14_code 11 = .ok (.if_icmp .ge 21, 3) := by decide +kernel
theorem d19_14 : decode jdk_52_method_14_code 14 = .ok (.aload_n 3, 1) := by decide +kernel
theorem d19_15 : decode jdk_52_method_14_code 15 = .ok (.iload 4, 2) := by decide +kernel
theorem d19_17 : decode jdk_52_method_14_code 17 = .ok (.aload_n 0, 1) := by decide +kernel
theorem d19_18 : decode jdk_52_method_14_code 18 = .ok (.iload_n 1, 1) := by decide +kernel
theorem d19_19 : decode jdk_52_method_14_code 19 = .ok (.caload, 1) := by decide +kernel
theorem d19_20 : decode jdk_52_method_14_code 20 = .ok (.invokestatic 111, 3) := by decide +kernel
theorem pd_2 : parseMethodDescriptor "([BII)V" = some ⟨[(.array .byte), .int, .int], none⟩ := by decide +kernel
theorem d19_23 : decode jdk_52_method_14_code 23 = .ok (.iinc 1 1, 3) := by decide +kernel
theorem d19_26 : decode jdk_52_method_14_code 26 = .ok (.iinc 4 1, 3) := by decide +kernel
theorem d19_29 : decode jdk_52_method_14_code 29 = .ok (.goto (-21), 3) := by decide +kernel
theorem d19_32 : decode jdk_52_method_14_code 32 = .ok (.aload_n 3, 1) := by decide +kernel
theorem d19_33 : decode jdk_52_method_14_code 33 = .ok (.areturn, 1) := by decide +kernel
theorem ef_rmTb (m : MethodId) (o0 : Addr) (cs : List Int32) : entryFrame m #[(.ref o0), (.int (0 : Int32)), (.int (Int32.ofNat cs.length))] 5 = mkF m 0 #[.val (.ref o0), .val (.int (0 : Int32)), .val (.int (Int32.ofNat cs.length)), .unset, .unset] [] := by first | (simp [entryFrame, mkF, argsToLocals, Value.category]; done) | rfl
def QrmTb (Z : State) (o0 : Addr) (kc : ClassId) (cs : List Int32) (h0 : Heap) (n0 : Nat) (v : Option Value) (h : Heap) (L : List Loc) : Prop := ∃ r : Addr, ∃ kb : ClassId, v = some (.ref r) ∧ Fr n0 L ∧ Keep h0 h [] ∧ Arv Z h r kb .byte (Int32.ofNat (2 * cs.length)) (wideBytes cs) (.int (0 : Int32)) ∧ (h0.size ≤ r)
set_option maxRecDepth 65536 in
set_option maxHeartbeats 40000000 in
theorem rmTb (l : Launch) (Z : State) (a0 : Array Value) (hw : ∀ d ∈ tables_1, d.before a0 Z = true) (ws : List Jvm.Cond) (o0 : Addr) (kc : ClassId) (cs : List Int32) (h0 : Heap) (n0 : Nat) (Z0 : n0 ≤ h0.size) (H0 : Sta Z h0 "java/lang/StringUTF16" "$assertionsDisabled" "Z" (.int (1 : Int32))) (H1 : Sta Z h0 "java/lang/StringUTF16" "HI_BYTE_SHIFT" "I" (.int (0 : Int32))) (H2 : Sta Z h0 "java/lang/StringUTF16" "LO_BYTE_SHIFT" "I" (.int (8 : Int32))) (H3 : Arv Z h0 o0 kc .char (Int32.ofNat cs.length) (cs.map Value.int) (.int (0 : Int32))) (hn : cs.length ≤ 12) :
    MetFree l (⟨"java/lang/StringUTF16", "toBytes", "([CII)[B"⟩ : MethodName) (head1 (Jvm.Cond.code (⟨"java/lang/StringUTF16", "toBytes", "([CII)[B"⟩ : MethodName) jdk_52_method_14_code 5 (some (.array .byte)) :: ws) ({ frames := 2, cells := 1, slots := 24, locals := 24 } : Room)) (fun a U => a = #[(.ref o0), (.int (0 : Int32)), (.int (Int32.ofNat cs.length))] ∧ Z.Warmed39 U.vm ∧ U.heap = h0) (fun _ _ _ _ _ => True) (fun _ U o U' => ∃ v L, o = .returned v ∧ QrmTb Z o0 kc cs h0 n0 v U'.heap L ∧ FrameEnd U o U' L ({ frames := 2, cells := 1, slots := 24, locals := 24 } : Room).cells ({ frames := 2, cells := 1, slots := 24, locals := 24 } : Room).slots) := by
  refine MetFree.of_bodySF (plainFor_of_name pn_22) hisR ?_
  intro p e s m args below meth c s₁ Bd hml0 hP hK
  obtain ⟨rfl, hZ, hh⟩ := hP
  have hx := Bd.exec
  have hby := Bd.bytes
  have hml : c.maxLocals = 5 := hml0
  have hown : s.vm.findClass "java/lang/StringUTF16" = some m.cls := findClass_of_methodNamed Bd.named
  have hnm := (name_of_methodNamed Bd.named Bd.method).1
  have X0 : Stand p l e ({ frames := 2, cells := 1, slots := 24, locals := 24 } : Room) s m #[(.ref o0), (.int (0 : Int32)), (.int (Int32.ofNat cs.length))] below meth c s₁ [] 0 0 := Stand.of_body Bd
  have e0 : s₁.heap = h0 := by rw [← hh, Bd.state]; rfl
  have N0 := Fr.nil n0
  have pre0 : ∀ t, Steps p.tables e below (s₁.setTop (mkF m 0 #[.val (.ref o0), .val (.int (0 : Int32)), .val (.int (Int32.ofNat cs.length)), .unset, .unset] [])) t → Steps p.tables e below (s₁.setTop (entryFrame m #[(.ref o0), (.int (0 : Int32)), (.int (Int32.ofNat cs.length))] 5)) t := fun t k => castTop (ef_rmTb m o0 cs) k
  have z35 : @LT.lt Nat _ o0 (Array.size h0) := H3.lt
  have KC0 : Keep h0 h0 [] := Keep.refl _ _
  obtain ⟨_, _, ⟨T36, L36, k36, n36⟩, -, X36, ⟨Lc36, hQ36, l36, y36, z36⟩, st36⟩ := Jvm.LawKit.callS X0 hx (y := (⟨"java/lang/StringUTF16", "newBytesFor", "(I)[B"⟩ : MethodName)) hown (mvT hZ (hw _ (List.mem_of_getElem? (i := 91) rfl))) (mvT hZ (hw _ (List.mem_of_getElem? (i := 92) rfl))) (mvT hZ (hw _ (List.mem_of_getElem? (i := 80) rfl))) (mvT hZ (hw _ (List.mem_of_getElem? (i := 93) rfl))) (by decide) (backOf (W := 0) (rmNbf l Z a0 hw [] (cs.length) h0 n0 (by omega) ((by first | decide | omega | assumption) : (cs.length) ≤ 12)) hZ (hw _ (List.mem_of_getElem? (i := 93) rfl)) (hw _ (List.mem_of_getElem? (i := 80) rfl)) (by decide) (by decide)) (g := (mkF m 1 #[.val (.ref o0), .val (.int (0 : Int32)), .val (.int (Int32.ofNat cs.length)), .unset, .unset] [(.int (Int32.ofNat cs.length))])) rfl (by rw [hml]; rfl) (argsL := [(.int (Int32.ofNat cs.length))]) (rest := []) (lenOf pd_1 rfl) rfl (by show 2 * 0 + _ ≤ _; exact Nat.le_of_eq rfl) (hb hby d19_1) (fun _ _ => ⟨rfl, e0, (by decide : 0 + 1 ≤ _), (by decide : 0 + 24 ≤ _)⟩)
  dsimp only [Pt.U, Pt.locs, Pt.cells, Pt.slots] at X36 l36 y36 z36 st36 hQ36
  subst l36 y36 z36
  obtain ⟨r_36, kb_36, rfl, N36q, K36, P36_0, P36_1⟩ := hQ36
  have N36 := Fr.app N0 N36q
  have z37 := K36.1
  have KC38 : Keep h0 T36.heap [] := KC0.trans K36 all0
  have z39 : @LT.lt Nat _ r_36 (Array.size T36.heap) := P36_0.lt
  have z40 : @LE.le Nat _ (Array.size h0) r_36 := P36_1
  have pre41 : ∀ t, Steps p.tables e below (T36.setTop (mkF m 8 #[.val (.ref o0), .val (.int (0 : Int32)), .val (.int (Int32.ofNat cs.length)), .val (.ref r_36), .val (.int (0 : Int32))] [])) t → Steps p.tables e below (s₁.setTop (entryFrame m #[(.ref o0), (.int (0 : Int32)), (.int (Int32.ofNat cs.length))] 5)) t := fun t k => by
    refine pre0 _ ?_
    show Steps p.tables e below (s₁.setTop (mkF m 0 #[.val (.ref o0), .val (.int (0 : Int32)), .val (.int (Int32.ofNat cs.length)), .unset, .unset] [])) _
    refine XS.iloadN X0.here hx rfl (hb hby d19_0) rfl ?_
    show Steps p.tables e below (s₁.setTop (mkF m 1 #[.val (.ref o0), .val (.int (0 : Int32)), .val (.int (Int32.ofNat cs.length)), .unset, .unset] [(.int (Int32.ofNat cs.length))])) _
    refine st36 _ ?_
    show Steps p.tables e below (T36.setTop (mkF m 4 #[.val (.ref o0), .val (.int (0 : Int32)), .val (.int (Int32.ofNat cs.length)), .unset, .unset] [(.ref r_36)])) _
    refine XS.astoreN X36.here hx rfl (hb hby d19_4) rfl rfl (l' := #[.val (.ref o0), .val (.int (0 : Int32)), .val (.int (Int32.ofNat cs.length)), .val (.ref r_36), .unset]) rfl ?_
    show Steps p.tables e below (T36.setTop (mkF m 5 #[.val (.ref o0), .val (.int (0 : Int32)), .val (.int (Int32.ofNat cs.length)), .val (.ref r_36), .unset] [])) _
    refine XS.iconst X36.here hx rfl (hb hby d19_5) ?_
    show Steps p.tables e below (T36.setTop (mkF m 6 #[.val (.ref o0), .val (.int (0 : Int32)), .val (.int (Int32.ofNat cs.length)), .val (.ref r_36), .unset] [(.int (0 : Int32))])) _
    refine XS.istore X36.here hx rfl (hb hby d19_6) rfl (l' := #[.val (.ref o0), .val (.int (0 : Int32)), .val (.int (Int32.ofNat cs.length)), .val (.ref r_36), .val (.int (0 : Int32))]) rfl ?_
    exact k
  have pre42 : ∀ t, Steps p.tables e below (T36.setTop (mkF m 8 #[.val (.ref o0), .val (.int (Int32.ofNat 0)), .val (.int (Int32.ofNat cs.length)), .val (.ref r_36), .val (.int (Int32.ofNat 0))] [])) t → Steps p.tables e below (s₁.setTop (entryFrame m #[(.ref o0), (.int (0 : Int32)), (.int (Int32.ofNat cs.length))] 5)) t := fun t k => pre41 t (by rw [(rfl : (0 : Int32) = Int32.ofNat 0)]; exact k)
  have lp43 : ∀ (k i : Nat) (Tk : State) (Lk : List Loc) (hk : Heap), i + k = cs.length → Stand p l e ({ frames := 2, cells := 1, slots := 24, locals := 24 } : Room) s m #[(.ref o0), (.int (0 : Int32)), (.int (Int32.ofNat cs.length))] below meth c Tk Lk 1 24 → Tk.heap = hk → Fr n0 Lk → Keep h0 hk [] → @LE.le Nat _ (Array.size T36.heap) (Array.size hk) → (Sta Z hk "java/lang/StringUTF16" "$assertionsDisabled" "Z" (.int (1 : Int32))) → (Sta Z hk "java/lang/StringUTF16" "HI_BYTE_SHIFT" "I" (.int (0 : Int32))) → (Sta Z hk "java/lang/StringUTF16" "LO_BYTE_SHIFT" "I" (.int (8 : Int32))) → (Arv Z hk o0 kc .char (Int32.ofNat cs.length) (cs.map Value.int) (.int (0 : Int32))) → (Arv Z hk r_36 kb_36 .byte (Int32.ofNat (2 * cs.length)) (own_pre cs i) (.int (0 : Int32))) →
      ∃ (T' : State) (L' : List Loc) (h' : Heap), Stand p l e ({ frames := 2, cells := 1, slots := 24, locals := 24 } : Room) s m #[(.ref o0), (.int (0 : Int32)), (.int (Int32.ofNat cs.length))] below meth c T' L' 1 24 ∧ T'.heap = h' ∧ Fr n0 L' ∧ Keep h0 h' [] ∧ @LE.le Nat _ (Array.size T36.heap) (Array.size h') ∧ (Arv Z h' r_36 kb_36 .byte (Int32.ofNat (2 * cs.length)) (wideBytes cs) (.int (0 : Int32))) ∧ (∀ t, Steps p.tables e below (T'.setTop (mkF m 32 #[.val (.ref o0), .val (.int (Int32.ofNat cs.length)), .val (.int (Int32.ofNat cs.length)), .val (.ref r_36), .val (.int (Int32.ofNat cs.length))] [])) t → Steps p.tables e below (Tk.setTop (mkF m 8 #[.val (.ref o0), .val (.int (Int32.ofNat i)), .val (.int (Int32.ofNat cs.length)), .val (.ref r_36), .val (.int (Int32.ofNat i))] [])) t) := by
    intro k
    induction k with
    | zero =>
      intro i Tk Lk hk hik Xk ek Nk Kk Zk I0 I1 I2 I3 I4
      obtain rfl : cs.length = i := by omega
      have preL : ∀ t, Steps p.tables e below (Tk.setTop (mkF m 8 #[.val (.ref o0), .val (.int (Int32.ofNat cs.length)), .val (.int (Int32.ofNat cs.length)), .val (.ref r_36), .val (.int (Int32.ofNat cs.length))] [])) t → Steps p.tables e below (Tk.setTop (mkF m 8 #[.val (.ref o0), .val (.int (Int32.ofNat cs.length)), .val (.int (Int32.ofNat cs.length)), .val (.ref r_36), .val (.int (Int32.ofNat cs.length))] [])) t := fun t k => k
      have z44 : @LT.lt Nat _ o0 (Array.size hk) := I3.lt
      have z45 : @LT.lt Nat _ r_36 (Array.size hk) := I4.lt
      have pre47 : ∀ t, Steps p.tables e below (Tk.setTop (mkF m 32 #[.val (.ref o0), .val (.int (Int32.ofNat cs.length)), .val (.int (Int32.ofNat cs.length)), .val (.ref r_36), .val (.int (Int32.ofNat cs.length))] [])) t → Steps p.tables e below (Tk.setTop (mkF m 8 #[.val (.ref o0), .val (.int (Int32.ofNat cs.length)), .val (.int (Int32.ofNat cs.length)), .val (.ref r_36), .val (.int (Int32.ofNat cs.length))] [])) t := fun t k => by
        refine preL _ ?_
        show Steps p.tables e below (Tk.setTop (mkF m 8 #[.val (.ref o0), .val (.int (Int32.ofNat cs.length)), .val (.int (Int32.ofNat cs.length)), .val (.ref r_36), .val (.int (Int32.ofNat cs.length))] [])) _
        refine XS.iload Xk.here hx rfl (hb hby d19_8) rfl ?_
        show Steps p.tables e below (Tk.setTop (mkF m 10 #[.val (.ref o0), .val (.int (Int32.ofNat cs.length)), .val (.int (Int32.ofNat cs.length)), .val (.ref r_36), .val (.int (Int32.ofNat cs.length))] [(.int (Int32.ofNat cs.length))])) _
        refine XS.iloadN Xk.here hx rfl (hb hby d19_10) rfl ?_
        show Steps p.tables e below (Tk.setTop (mkF m 11 #[.val (.ref o0), .val (.int (Int32.ofNat cs.length)), .val (.int (Int32.ofNat cs.length)), .val (.ref r_36), .val (.int (Int32.ofNat cs.length))] [(.int (Int32.ofNat cs.length)), (.int (Int32.ofNat cs.length))])) _
        refine XS.icmpYes Xk.here hx rfl (pc0 := 11) (pc' := 32) rfl (hb hby d19_11) rfl (flt ((fun k => by rw [Int32.lt_iff_toInt_lt] at k; omega) : ¬ ((Int32.ofNat cs.length) < (Int32.ofNat cs.length)))).2.1 (by decide) (by decide) ?_
        exact k
      have Vf48 := I4
      rw [own_pren] at Vf48
      exact ⟨_, _, _, Xk, ek, Nk, Kk, (by omega), Vf48, fun t kt => pre47 t kt⟩
    | succ k ih =>
      intro i Tk Lk hk hik Xk ek Nk Kk Zk I0 I1 I2 I3 I4
      have preL : ∀ t, Steps p.tables e below (Tk.setTop (mkF m 8 #[.val (.ref o0), .val (.int (Int32.ofNat i)), .val (.int (Int32.ofNat cs.length)), .val (.ref r_36), .val (.int (Int32.ofNat i))] [])) t → Steps p.tables e below (Tk.setTop (mkF m 8 #[.val (.ref o0), .val (.int (Int32.ofNat i)), .val (.int (Int32.ofNat cs.length)), .val (.ref r_36), .val (.int (Int32.ofNat i))] [])) t := fun t k => k
      have z49 : @LT.lt Nat _ o0 (Array.size hk) := I3.lt
      have z50 : @LT.lt Nat _ r_36 (Array.size hk) := I4.lt
      obtain ⟨cl51, Ar51, q51, S51, N51', H51, G51⟩ := id I3
      have hin51 : ¬ ((Int32.ofNat i) < 0 ∨ cl51.slots.size ≤ ((Int32.ofNat i)).toNatClampNeg) := inb_of S51 (own_in (by omega) (by omega))
      have hat51 : cl51.slots[((Int32.ofNat i)).toNatClampNeg]? = some (.int (cs.getD i 0)) := H51.at hin51 (by rw [own_tn (by omega)]; simp [List.getD_eq_getElem?_getD, show i < cs.length from by omega])
      obtain ⟨_, _, ⟨T52, L52, k52, n52⟩, -, X52, ⟨Lc52, hQ52, l52, y52, z52⟩, st52⟩ := Jvm.LawKit.callS Xk hx (y := (⟨"java/lang/StringUTF16", "putChar", "([BII)V"⟩ : MethodName)) hown (mvT hZ (hw _ (List.mem_of_getElem? (i := 98) rfl))) (mvT hZ (hw _ (List.mem_of_getElem? (i := 99) rfl))) (mvT hZ (hw _ (List.mem_of_getElem? (i := 80) rfl))) (mvT hZ (hw _ (List.mem_of_getElem? (i := 100) rfl))) (by decide) (backOf (W := 0) (rmPut l Z a0 hw [] r_36 (cs.getD i 0) i cs.length kb_36 (own_pre cs i) hk n0 (by omega) I0 I1 I2 I4 (by omega : n0 ≤ r_36) ((by omega) : i < cs.length) (hn : cs.length ≤ 12) ((own_prel cs i (by omega)) : (own_pre cs i).length = 2 * cs.length)) hZ (hw _ (List.mem_of_getElem? (i := 100) rfl)) (hw _ (List.mem_of_getElem? (i := 80) rfl)) (by decide) (by decide)) (g := (mkF m 20 #[.val (.ref o0), .val (.int (Int32.ofNat i)), .val (.int (Int32.ofNat cs.length)), .val (.ref r_36), .val (.int (Int32.ofNat i))] [(.int (cs.getD i 0)), (.int (Int32.ofNat i)), (.ref r_36)])) rfl (by rw [hml]; rfl) (argsL := [(.ref r_36), (.int (Int32.ofNat i)), (.int (cs.getD i 0))]) (rest := []) (lenOf pd_2 rfl) rfl (by show 2 * 0 + _ ≤ _; exact Nat.le_of_eq rfl) (hb hby d19_20) (fun _ _ => ⟨rfl, ek, (by decide : 1 + 0 ≤ _), (by decide : 24 + 0 ≤ _)⟩)
      dsimp only [Pt.U, Pt.locs, Pt.cells, Pt.slots] at X52 l52 y52 z52 st52 hQ52
      subst l52 y52 z52
      obtain ⟨rfl, N52q, K52, P52_0⟩ := hQ52
      have N52 := Fr.app Nk N52q
      have z53 := K52.1
      have KC54 : Keep h0 T52.heap [] := Kk.trans K52 (allS (Or.inr (by omega)) all0)
      have z55 : @LT.lt Nat _ r_36 (Array.size T52.heap) := P52_0.lt
      have Vt57 := P52_0
      rw [own_step cs i (by omega)] at Vt57
      have Fc58 := (own_staN I0 K52 (allS (own_nV I4) all0))
      have Fc59 := (own_staN I1 K52 (allS (own_nV I4) all0))
      have Fc60 := (own_staN I2 K52 (allS (own_nV I4) all0))
      have Fc61 := (I3.keep K52 (ninS ((by omega : @Ne Nat o0 r_36)) nin0))
      have pre62 : ∀ t, Steps p.tables e below (T52.setTop (mkF m 8 #[.val (.ref o0), .val (.int ((Int32.ofNat i) + (1 : Int32))), .val (.int (Int32.ofNat cs.length)), .val (.ref r_36), .val (.int ((Int32.ofNat i) + (1 : Int32)))] [])) t → Steps p.tables e below (Tk.setTop (mkF m 8 #[.val (.ref o0), .val (.int (Int32.ofNat i)), .val (.int (Int32.ofNat cs.length)), .val (.ref r_36), .val (.int (Int32.ofNat i))] [])) t := fun t k => by
        refine preL _ ?_
        show Steps p.tables e below (Tk.setTop (mkF m 8 #[.val (.ref o0), .val (.int (Int32.ofNat i)), .val (.int (Int32.ofNat cs.length)), .val (.ref r_36), .val (.int (Int32.ofNat i))] [])) _
        refine XS.iload Xk.here hx rfl (hb hby d19_8) rfl ?_
        show Steps p.tables e below (Tk.setTop (mkF m 10 #[.val (.ref o0), .val (.int (Int32.ofNat i)), .val (.int (Int32.ofNat cs.length)), .val (.ref r_36), .val (.int (Int32.ofNat i))] [(.int (Int32.ofNat i))])) _
        refine XS.iloadN Xk.here hx rfl (hb hby d19_10) rfl ?_
        show Steps p.tables e below (Tk.setTop (mkF m 11 #[.val (.ref o0), .val (.int (Int32.ofNat i)), .val (.int (Int32.ofNat cs.length)), .val (.ref r_36), .val (.int (Int32.ofNat i))] [(.int (Int32.ofNat cs.length)), (.int (Int32.ofNat i))])) _
        refine XS.icmpNo Xk.here hx rfl (hb hby d19_11) rfl (tlt ((own_in (by omega) (by omega)).2 : (Int32.ofNat i) < (Int32.ofNat cs.length))).2.1 ?_
        show Steps p.tables e below (Tk.setTop (mkF m 14 #[.val (.ref o0), .val (.int (Int32.ofNat i)), .val (.int (Int32.ofNat cs.length)), .val (.ref r_36), .val (.int (Int32.ofNat i))] [])) _
        refine XS.aloadN Xk.here hx rfl (hb hby d19_14) rfl rfl ?_
        show Steps p.tables e below (Tk.setTop (mkF m 15 #[.val (.ref o0), .val (.int (Int32.ofNat i)), .val (.int (Int32.ofNat cs.length)), .val (.ref r_36), .val (.int (Int32.ofNat i))] [(.ref r_36)])) _
        refine XS.iload Xk.here hx rfl (hb hby d19_15) rfl ?_
        show Steps p.tables e below (Tk.setTop (mkF m 17 #[.val (.ref o0), .val (.int (Int32.ofNat i)), .val (.int (Int32.ofNat cs.length)), .val (.ref r_36), .val (.int (Int32.ofNat i))] [(.int (Int32.ofNat i)), (.ref r_36)])) _
        refine XS.aloadN Xk.here hx rfl (hb hby d19_17) rfl rfl ?_
        show Steps p.tables e below (Tk.setTop (mkF m 18 #[.val (.ref o0), .val (.int (Int32.ofNat i)), .val (.int (Int32.ofNat cs.length)), .val (.ref r_36), .val (.int (Int32.ofNat i))] [(.ref o0), (.int (Int32.ofNat i)), (.ref r_36)])) _
        refine XS.iloadN Xk.here hx rfl (hb hby d19_18) rfl ?_
        show Steps p.tables e below (Tk.setTop (mkF m 19 #[.val (.ref o0), .val (.int (Int32.ofNat i)), .val (.int (Int32.ofNat cs.length)), .val (.ref r_36), .val (.int (Int32.ofNat i))] [(.int (Int32.ofNat i)), (.ref o0), (.int (Int32.ofNat i)), (.ref r_36)])) _
        refine Xk.caload hx (j := (Int32.ofNat i)) (v := (.int (cs.getD i 0))) (by rw [ek]; exact Ar51.1) (State.isArrayOf_alike hZ.alike Ar51.2.1) Ar51.2.2 hin51 hat51 (g := (mkF m 19 #[.val (.ref o0), .val (.int (Int32.ofNat i)), .val (.int (Int32.ofNat cs.length)), .val (.ref r_36), .val (.int (Int32.ofNat i))] [(.int (Int32.ofNat i)), (.ref o0), (.int (Int32.ofNat i)), (.ref r_36)])) rfl rfl (hb hby d19_19) _ ?_
        show Steps p.tables e below (Tk.setTop (mkF m 20 #[.val (.ref o0), .val (.int (Int32.ofNat i)), .val (.int (Int32.ofNat cs.length)), .val (.ref r_36), .val (.int (Int32.ofNat i))] [(.int (cs.getD i 0)), (.int (Int32.ofNat i)), (.ref r_36)])) _
        refine st52 _ ?_
        show Steps p.tables e below (T52.setTop (mkF m 23 #[.val (.ref o0), .val (.int (Int32.ofNat i)), .val (.int (Int32.ofNat cs.length)), .val (.ref r_36), .val (.int (Int32.ofNat i))] [])) _
        refine XS.iinc X52.here hx rfl (hb hby d19_23) rfl (l' := #[.val (.ref o0), .val (.int ((Int32.ofNat i) + (1 : Int32))), .val (.int (Int32.ofNat cs.length)), .val (.ref r_36), .val (.int (Int32.ofNat i))]) rfl ?_
        show Steps p.tables e below (T52.setTop (mkF m 26 #[.val (.ref o0), .val (.int ((Int32.ofNat i) + (1 : Int32))), .val (.int (Int32.ofNat cs.length)), .val (.ref r_36), .val (.int (Int32.ofNat i))] [])) _
        refine XS.iinc X52.here hx rfl (hb hby d19_26) rfl (l' := #[.val (.ref o0), .val (.int ((Int32.ofNat i) + (1 : Int32))), .val (.int (Int32.ofNat cs.length)), .val (.ref r_36), .val (.int ((Int32.ofNat i) + (1 : Int32)))]) rfl ?_
        show Steps p.tables e below (T52.setTop (mkF m 29 #[.val (.ref o0), .val (.int ((Int32.ofNat i) + (1 : Int32))), .val (.int (Int32.ofNat cs.length)), .val (.ref r_36), .val (.int ((Int32.ofNat i) + (1 : Int32)))] [])) _
        refine XS.goto X52.here hx rfl (pc0 := 29) (pc' := 8) rfl (hb hby d19_29) (by decide) (by decide) ?_
        exact k
      have pre63 : ∀ t, Steps p.tables e below (T52.setTop (mkF m 8 #[.val (.ref o0), .val (.int (Int32.ofNat (i + 1))), .val (.int (Int32.ofNat cs.length)), .val (.ref r_36), .val (.int (Int32.ofNat (i + 1)))] [])) t → Steps p.tables e below (Tk.setTop (mkF m 8 #[.val (.ref o0), .val (.int (Int32.ofNat i)), .val (.int (Int32.ofNat cs.length)), .val (.ref r_36), .val (.int (Int32.ofNat i))] [])) t := fun t k => pre62 t (by rw [own_inc (by omega)]; exact k)
      obtain ⟨T56, L56, h56, X56, e56, N56, K56, z56, R56_0, st56⟩ := ih (i + 1) _ _ _ (by omega) X52 rfl N52 KC54 (by omega) Fc58 Fc59 Fc60 Fc61 Vt57
      exact ⟨T56, L56, h56, X56, e56, N56, K56, z56, R56_0, fun t kt => pre63 t (st56 t kt)⟩
  have Vs65 := P36_0
  rw [← own_pre0] at Vs65
  have Fc66 := (H0.ext (own_ext K36))
  have Fc67 := (H1.ext (own_ext K36))
  have Fc68 := (H2.ext (own_ext K36))
  have Fc69 := (H3.keep K36 nin0)
  obtain ⟨T64, L64, h64, X64, e64, N64, K64, z64, P64_0, st64⟩ := lp43 (cs.length) (0) _ _ _ (by omega) X36 rfl N36 KC38 (Nat.le_refl _) Fc66 Fc67 Fc68 Fc69 Vs65
  have z70 : @LT.lt Nat _ r_36 (Array.size h64) := P64_0.lt
  obtain ⟨fs, hr, hrun, hended, hW, hsame⟩ := X64.leave (v := some (.ref r_36)) (fun h => by rw [Bd.returns] at h; cases h)
  refine ⟨_, _, pre42 _ ?_, hrun, hended, _, _, rfl, ?_, ⟨_, rfl⟩, hW, hsame.mono (by decide) (by decide)⟩
  · refine st64 _ ?_
    show Steps p.tables e below (T64.setTop (mkF m 32 #[.val (.ref o0), .val (.int (Int32.ofNat cs.length)), .val (.int (Int32.ofNat cs.length)), .val (.ref r_36), .val (.int (Int32.ofNat cs.length))] [])) _
    refine XS.aloadN X64.here hx rfl (hb hby d19_32) rfl rfl ?_
    show Steps p.tables e below (T64.setTop (mkF m 33 #[.val (.ref o0), .val (.int (Int32.ofNat cs.length)), .val (.int (Int32.ofNat cs.length)), .val (.ref r_36), .val (.int (Int32.ofNat cs.length))] [(.ref r_36)])) _
    jvm_step X64.here [X64.here.top, hx, (hb hby d19_33), X64.method', Bd.returns, Value.isRef, FieldType.isReference]
    first | (intro acts; rw [hr _ acts rfl rfl rfl]) | rw [hr _ _ rfl rfl rfl]
    exact Steps.refl _
  · show QrmTb Z o0 kc cs h0 n0 _ T64.heap _
    rw [e64]
    exact ⟨r_36, kb_36, rfl, N64, K64, P64_0, (by first | omega | decide | assumption : h0.size ≤ r_36)⟩
theorem own_ltn {a b : Nat} (ha : a < 2 ^ 31) (hb : b < 2 ^ 31) : Int32.ofNat a < Int32.ofNat b ↔ a < b := by
  rw [Int32.lt_iff_toInt_lt, own_nat ha, own_nat hb]; omega
theorem own_eqi {a b : Nat} (ha : a < 2 ^ 31) (hb : b < 2 ^ 31) : Int32.ofNat a = Int32.ofNat b ↔ a = b := by
  rw [← Int32.toInt_inj, own_nat ha, own_nat hb]; omega
theorem own_fst (P : Nat → Prop) [DecidablePred P] : ∀ n : Nat, ∃ j, j ≤ n ∧ (∀ i, i < j → P i) ∧ (j < n → ¬ P j)
  | 0 => ⟨0, Nat.le_refl _, fun _ h => absurd h (Nat.not_lt_zero _), fun h => absurd h (Nat.not_lt_zero _)⟩
  | n + 1 => by
    obtain ⟨j, h1, h2, h3⟩ := own_fst P n
    by_cases h : j < n
    · exact ⟨j, by omega, h2, fun _ => h3 h⟩
    · by_cases k : P n
      · refine ⟨n + 1, by omega, fun i hi => ?_, fun q => by omega⟩
        by_cases e : i < j
        · exact h2 i e
        · rw [show i = n from by omega]; exact k
      · exact ⟨n, by omega, fun i hi => h2 i (by omega), fun _ => k⟩
def own_lat (cs : List Int32) (i : Nat) : List Value := (cs.take i).map (fun c => Value.int (lo8 c)) ++ List.replicate (cs.length - i) (Value.int (0 : Int32))
theorem own_latl (cs : List Int32) (i : Nat) (h : i ≤ cs.length) : (own_lat cs i).length = cs.length := by
  simp only [own_lat, List.length_append, List.length_map, List.length_take, List.length_replicate]; omega
theorem own_lat0 (cs : List Int32) : own_lat cs 0 = List.replicate cs.length (Value.int (0 : Int32)) := by simp [own_lat]
theorem own_latn (cs : List Int32) : own_lat cs cs.length = cs.map (fun c => Value.int (lo8 c)) := by simp [own_lat]
theorem own_tk1 (cs : List Int32) (i : Nat) (h : i < cs.length) : cs.take (i + 1) = cs.take i ++ [cs.getD i 0] := by
  rw [List.take_add_one]
  congr 1
  simp [List.getD_eq_getElem?_getD, h]
theorem own_lats (cs : List Int32) (i : Nat) (h : i < cs.length) : List.set (own_lat cs i) i (.int (nar .byte ((cs.getD i 0).toInt8.toInt32))) = own_lat cs (i + 1) := by
  have e1 : ((cs.take i).map (fun c => Value.int (lo8 c))).length = i := by rw [List.length_map, List.length_take]; omega
  have e2 : List.replicate (cs.length - i) (Value.int (0 : Int32)) = Value.int 0 :: List.replicate (cs.length - (i + 1)) (Value.int (0 : Int32)) := by
    rw [show cs.length - i = (cs.length - (i + 1)) + 1 from by omega]; rfl
  have e5 : nar .byte ((cs.getD i 0).toInt8.toInt32) = lo8 (cs.getD i 0) := own_lo8 _
  have e4 : own_lat cs (i + 1) = (cs.take i).map (fun c => Value.int (lo8 c)) ++ (Value.int (lo8 (cs.getD i 0)) :: List.replicate (cs.length - (i + 1)) (Value.int (0 : Int32))) := by
    unfold own_lat; rw [own_tk1 cs i h, List.map_append, List.append_assoc]; rfl
  rw [e4, e5]
  unfold own_lat
  rw [e2, List.set_append_right _ _ (by omega), e1, Nat.sub_self]
  rfl
theorem d17_0 : decode jdk_52_method_21_code 0 = .ok (.iconst 0, 1) := by decide +kernel
theorem d17_1 : decode jdk_52_method_21_code 1 = .ok (.istore 5, 2) := by decide +kernel
theorem d17_3 : decode jdk_52_method_21_code 3 = .ok (.iload 5, 2) := by decide +kernel
theorem d17_5 : decode jdk_52_method_21_code 5 = .ok (.iload 4, 2) := by decide +kernel
theorem d17_7 : decode jdk_52_method_21_code 7 = .ok (.if_icmp .ge 37, 3) := by decide +kernel
theorem d17_10 : decode jdk_52_method_21_code 10 = .ok (.aload_n 0, 1) := by decide +kernel
theorem d17_11 : decode jdk_52_method_21_code 11 = .ok (.iload_n 1, 1) := by decide +kernel
theorem d17_12 : decode jdk_52_method_21_code 12 = .ok (.caload, 1) := by decide +kernel
theorem d17_13 : decode jdk_52_method_21_code 13 = .ok (.istore 6, 2) := by decide +kernel
theorem d17_15 : decode jdk_52_method_21_code 15 = .ok (.iload 6, 2) := by decide +kernel
theorem d17_17 : decode jdk_52_method_21_code 17 = .ok (.sipush 255, 3) := by decide +kernel
theorem d17_20 : decode jdk_52_method_21_code 20 = .ok (.if_icmp .le 6, 3) := by decide +kernel
theorem d17_26 : decode jdk_52_method_21_code 26 = .ok (.aload_n 2, 1) := by decide +kernel
theorem d17_27 : decode jdk_52_method_21_code 27 = .ok (.iload_n 3, 1) := by decide +kernel
theorem d17_28 : decode jdk_52_method_21_code 28 = .ok (.iload 6, 2) := by decide +kernel
theorem d17_30 : decode jdk_52_method_21_code 30 = .ok (.i2b, 1) := by decide +kernel
theorem d17_31 : decode jdk_52_method_21_code 31 = .ok (.bastore, 1) := by decide +kernel
theorem d17_32 : decode jdk_52_method_21_code 32 = .ok (.iinc 1 1, 3) := by decide +kernel
theorem d17_35 : decode jdk_52_method_21_code 35 = .ok (.iinc 3 1, 3) := by decide +kernel
theorem d17_38 : decode jdk_52_method_21_code 38 = .ok (.iinc 5 1, 3) := by decide +kernel
theorem d17_41 : decode jdk_52_method_21_code 41 = .ok (.goto (-38), 3) := by decide +kernel
theorem d17_23 : decode jdk_52_method_21_code 23 = .ok (.iload 5, 2) := by decide +kernel
theorem d17_25 : decode jdk_52_method_21_code 25 = .ok (.ireturn, 1) := by decide +kernel
theorem d17_44 : decode jdk_52_method_21_code 44 = .ok (.iload 4, 2) := by decide +kernel
theorem d17_46 : decode jdk_52_method_21_code 46 = .ok (.ireturn, 1) := by decide +kernel
theorem ef_rmC5 (m : MethodId) (o0 : Addr) (o2 : Addr) (cs : List Int32) : entryFrame m #[(.ref o0), (.int (0 : Int32)), (.ref o2), (.int (0 : Int32)), (.int (Int32.ofNat cs.length))] 7 = mkF m 0 #[.val (.ref o0), .val (.int (0 : Int32)), .val (.ref o2), .val (.int (0 : Int32)), .val (.int (Int32.ofNat cs.length)), .unset, .unset] [] := by first | (simp [entryFrame, mkF, argsToLocals, Value.category]; done) | rfl
def QrmC5 (Z : State) (o0 : Addr) (o2 : Addr) (kc : ClassId) (kb : ClassId) (cs : List Int32) (h0 : Heap) (n0 : Nat) (v : Option Value) (h : Heap) (L : List Loc) : Prop := ∃ j : Nat, v = some (.int (Int32.ofNat j)) ∧ Fr n0 L ∧ Keep h0 h [o2] ∧ Arv Z h o2 kb .byte (Int32.ofNat cs.length) (own_lat cs j) (.int (0 : Int32)) ∧ (j ≤ cs.length ∧ (∀ i, i < j → ¬ (255 : Int32) < cs.getD i 0) ∧ (j < cs.length → (255 : Int32) < cs.getD j 0))
set_option maxRecDepth 65536 in
set_option maxHeartbeats 40000000 in
theorem rmC5 (l : Launch) (Z : State) (a0 : Array Value) (hw : ∀ d ∈ tables_1, d.before a0 Z = true) (ws : List Jvm.Cond) (o0 : Addr) (o2 : Addr) (kc : ClassId) (kb : ClassId) (cs : List Int32) (h0 : Heap) (n0 : Nat) (Z0 : n0 ≤ h0.size) (H0 : Arv Z h0 o0 kc .char (Int32.ofNat cs.length) (cs.map Value.int) (.int (0 : Int32))) (H1 : Arv Z h0 o2 kb .byte (Int32.ofNat cs.length) (List.replicate cs.length (Value.int (0 : Int32))) (.int (0 : Int32))) (H2 : n0 ≤ o2) (hn : cs.length ≤ 12) (hne : @Ne Nat o0 o2) :
    MetFree l (⟨"java/lang/StringUTF16", "compress", "([CI[BII)I"⟩ : MethodName) (head1 (Jvm.Cond.code (⟨"java/lang/StringUTF16", "compress", "([CI[BII)I"⟩ : MethodName) jdk_52_method_21_code 7 (some .int) :: ws) ({ frames := 0, cells := 0, slots := 0, locals := 0 } : Room)) (fun a U => a = #[(.ref o0), (.int (0 : Int32)), (.ref o2), (.int (0 : Int32)), (.int (Int32.ofNat cs.length))] ∧ Z.Warmed39 U.vm ∧ U.heap = h0) (fun _ _ _ _ _ => True) (fun _ U o U' => ∃ v L, o = .returned v ∧ QrmC5 Z o0 o2 kc kb cs h0 n0 v U'.heap L ∧ FrameEnd U o U' L ({ frames := 0, cells := 0, slots := 0, locals := 0 } : Room).cells ({ frames := 0, cells := 0, slots := 0, locals := 0 } : Room).slots) := by
  refine MetFree.of_bodySF (plainFor_of_name pn_22) hisR ?_
  intro p e s m args below meth c s₁ Bd hml0 hP hK
  obtain ⟨rfl, hZ, hh⟩ := hP
  have hx := Bd.exec
  have hby := Bd.bytes
  have hml : c.maxLocals = 7 := hml0
  have hown : s.vm.findClass "java/lang/StringUTF16" = some m.cls := findClass_of_methodNamed Bd.named
  have hnm := (name_of_methodNamed Bd.named Bd.method).1
  have X0 : Stand p l e ({ frames := 0, cells := 0, slots := 0, locals := 0 } : Room) s m #[(.ref o0), (.int (0 : Int32)), (.ref o2), (.int (0 : Int32)), (.int (Int32.ofNat cs.length))] below meth c s₁ [] 0 0 := Stand.of_body Bd
  have e0 : s₁.heap = h0 := by rw [← hh, Bd.state]; rfl
  have N0 := Fr.nil n0
  have pre0 : ∀ t, Steps p.tables e below (s₁.setTop (mkF m 0 #[.val (.ref o0), .val (.int (0 : Int32)), .val (.ref o2), .val (.int (0 : Int32)), .val (.int (Int32.ofNat cs.length)), .unset, .unset] [])) t → Steps p.tables e below (s₁.setTop (entryFrame m #[(.ref o0), (.int (0 : Int32)), (.ref o2), (.int (0 : Int32)), (.int (Int32.ofNat cs.length))] 7)) t := fun t k => castTop (ef_rmC5 m o0 o2 cs) k
  have z71 : @LT.lt Nat _ o0 (Array.size h0) := H0.lt
  have z72 : @LT.lt Nat _ o2 (Array.size h0) := H1.lt
  have KC0 : Keep h0 h0 [o2] := Keep.refl _ _
  obtain ⟨j, ja, jb, jc⟩ := own_fst (fun i => ¬ (255 : Int32) < cs.getD i 0) cs.length
  have pre73 : ∀ t, Steps p.tables e below (s₁.setTop (mkF m 3 #[.val (.ref o0), .val (.int (0 : Int32)), .val (.ref o2), .val (.int (0 : Int32)), .val (.int (Int32.ofNat cs.length)), .val (.int (0 : Int32)), .unset] [])) t → Steps p.tables e below (s₁.setTop (entryFrame m #[(.ref o0), (.int (0 : Int32)), (.ref o2), (.int (0 : Int32)), (.int (Int32.ofNat cs.length))] 7)) t := fun t k => by
    refine pre0 _ ?_
    show Steps p.tables e below (s₁.setTop (mkF m 0 #[.val (.ref o0), .val (.int (0 : Int32)), .val (.ref o2), .val (.int (0 : Int32)), .val (.int (Int32.ofNat cs.length)), .unset, .unset] [])) _
    refine XS.iconst X0.here hx rfl (hb hby d17_0) ?_
    show Steps p.tables e below (s₁.setTop (mkF m 1 #[.val (.ref o0), .val (.int (0 : Int32)), .val (.ref o2), .val (.int (0 : Int32)), .val (.int (Int32.ofNat cs.length)), .unset, .unset] [(.int (0 : Int32))])) _
    refine XS.istore X0.here hx rfl (hb hby d17_1) rfl (l' := #[.val (.ref o0), .val (.int (0 : Int32)), .val (.ref o2), .val (.int (0 : Int32)), .val (.int (Int32.ofNat cs.length)), .val (.int (0 : Int32)), .unset]) rfl ?_
    exact k
  have pre74 : ∀ t, Steps p.tables e below (s₁.setTop (mkF m 3 #[.val (.ref o0), .val (.int (Int32.ofNat 0)), .val (.ref o2), .val (.int (Int32.ofNat 0)), .val (.int (Int32.ofNat cs.length)), .val (.int (Int32.ofNat 0)), .unset] [])) t → Steps p.tables e below (s₁.setTop (entryFrame m #[(.ref o0), (.int (0 : Int32)), (.ref o2), (.int (0 : Int32)), (.int (Int32.ofNat cs.length))] 7)) t := fun t k => pre73 t (by rw [(rfl : (0 : Int32) = Int32.ofNat 0)]; exact k)
  have lp75 : ∀ (k i : Nat) (Tk : State) (Lk : List Loc) (hk : Heap) (sl : Slot), i + k = j → Stand p l e ({ frames := 0, cells := 0, slots := 0, locals := 0 } : Room) s m #[(.ref o0), (.int (0 : Int32)), (.ref o2), (.int (0 : Int32)), (.int (Int32.ofNat cs.length))] below meth c Tk Lk 0 0 → Tk.heap = hk → Fr n0 Lk → Keep h0 hk [o2] → @LE.le Nat _ (Array.size h0) (Array.size hk) → (Arv Z hk o0 kc .char (Int32.ofNat cs.length) (cs.map Value.int) (.int (0 : Int32))) → (Arv Z hk o2 kb .byte (Int32.ofNat cs.length) (own_lat cs i) (.int (0 : Int32))) → (sl = .unset ∨ ∃ w, sl = .val (.int w)) →
      ∃ (T' : State) (L' : List Loc) (h' : Heap) (so : Slot), Stand p l e ({ frames := 0, cells := 0, slots := 0, locals := 0 } : Room) s m #[(.ref o0), (.int (0 : Int32)), (.ref o2), (.int (0 : Int32)), (.int (Int32.ofNat cs.length))] below meth c T' L' 0 0 ∧ T'.heap = h' ∧ Fr n0 L' ∧ Keep h0 h' [o2] ∧ @LE.le Nat _ (Array.size h0) (Array.size h') ∧ (Arv Z h' o0 kc .char (Int32.ofNat cs.length) (cs.map Value.int) (.int (0 : Int32))) ∧ (Arv Z h' o2 kb .byte (Int32.ofNat cs.length) (own_lat cs j) (.int (0 : Int32))) ∧ (so = .unset ∨ ∃ w, so = .val (.int w)) ∧ (∀ t, Steps p.tables e below (T'.setTop (mkF m 3 #[.val (.ref o0), .val (.int (Int32.ofNat j)), .val (.ref o2), .val (.int (Int32.ofNat j)), .val (.int (Int32.ofNat cs.length)), .val (.int (Int32.ofNat j)), so] [])) t → Steps p.tables e below (Tk.setTop (mkF m 3 #[.val (.ref o0), .val (.int (Int32.ofNat i)), .val (.ref o2), .val (.int (Int32.ofNat i)), .val (.int (Int32.ofNat cs.length)), .val (.int (Int32.ofNat i)), sl] [])) t) := by
    intro k
    induction k with
    | zero =>
      intro i Tk Lk hk sl hik Xk ek Nk Kk Zk I0 I1 I2
      obtain rfl : j = i := by omega
      have preL : ∀ t, Steps p.tables e below (Tk.setTop (mkF m 3 #[.val (.ref o0), .val (.int (Int32.ofNat j)), .val (.ref o2), .val (.int (Int32.ofNat j)), .val (.int (Int32.ofNat cs.length)), .val (.int (Int32.ofNat j)), sl] [])) t → Steps p.tables e below (Tk.setTop (mkF m 3 #[.val (.ref o0), .val (.int (Int32.ofNat j)), .val (.ref o2), .val (.int (Int32.ofNat j)), .val (.int (Int32.ofNat cs.length)), .val (.int (Int32.ofNat j)), sl] [])) t := fun t k => k
      have z76 : @LT.lt Nat _ o0 (Array.size hk) := I0.lt
      have z77 : @LT.lt Nat _ o2 (Array.size hk) := I1.lt
      exact ⟨_, _, _, _, Xk, ek, Nk, Kk, (by omega), I0, I1, I2, fun t kt => preL t kt⟩
    | succ k ih =>
      intro i Tk Lk hk sl hik Xk ek Nk Kk Zk I0 I1 I2
      have preL : ∀ t, Steps p.tables e below (Tk.setTop (mkF m 3 #[.val (.ref o0), .val (.int (Int32.ofNat i)), .val (.ref o2), .val (.int (Int32.ofNat i)), .val (.int (Int32.ofNat cs.length)), .val (.int (Int32.ofNat i)), sl] [])) t → Steps p.tables e below (Tk.setTop (mkF m 3 #[.val (.ref o0), .val (.int (Int32.ofNat i)), .val (.ref o2), .val (.int (Int32.ofNat i)), .val (.int (Int32.ofNat cs.length)), .val (.int (Int32.ofNat i)), sl] [])) t := fun t k => k
      have z79 : @LT.lt Nat _ o0 (Array.size hk) := I0.lt
      have z80 : @LT.lt Nat _ o2 (Array.size hk) := I1.lt
      obtain ⟨cl81, Ar81, q81, S81, N81', H81, G81⟩ := id I0
      have hin81 : ¬ ((Int32.ofNat i) < 0 ∨ cl81.slots.size ≤ ((Int32.ofNat i)).toNatClampNeg) := inb_of S81 (own_in (by omega) (by omega))
      have hat81 : cl81.slots[((Int32.ofNat i)).toNatClampNeg]? = some (.int (cs.getD i 0)) := H81.at hin81 (by rw [own_tn (by omega)]; simp [List.getD_eq_getElem?_getD, show i < cs.length from by omega])
      obtain ⟨cl82, Ar82, q82, S82, N82', H82, G82⟩ := id I1
      have hin82 : ¬ ((Int32.ofNat i) < 0 ∨ cl82.slots.size ≤ ((Int32.ofNat i)).toNatClampNeg) := inb_of S82 (own_in (by omega) (by omega))
      obtain ⟨T83, h83, X83, e83, W83, st83⟩ := stB Xk hx hZ ek Ar82 (j := (Int32.ofNat i)) hin82 (g := (mkF m 31 #[.val (.ref o0), .val (.int (Int32.ofNat i)), .val (.ref o2), .val (.int (Int32.ofNat i)), .val (.int (Int32.ofNat cs.length)), .val (.int (Int32.ofNat i)), .val (.int (cs.getD i 0))] [(.int ((cs.getD i 0).toInt8.toInt32)), (.int (Int32.ofNat i)), (.ref o2)])) rfl rfl (hb hby d17_31)
      have z84 := W83.size
      have N83 := Fr.snoc X83 Nk (by omega : n0 ≤ o2)
      have KC85 : Keep h0 h83 [o2] := Kk.wr W83 (Or.inl (List.mem_of_getElem? (i := 0) rfl))
      have V83 : Arv Z h83 o2 kb .byte (Int32.ofNat cs.length) (List.set (own_lat cs i) (i) (.int (nar .byte ((cs.getD i 0).toInt8.toInt32)))) (.int (0 : Int32)) := Arv.set Ar82 q82 S82 N82' H82 G82 (fits_nar_byte _) W83 (i) (own_tn (by omega)) (by rw [own_latl cs i (by omega)]; omega)
      have Vt87 := V83
      rw [own_lats cs i (by omega)] at Vt87
      have Fc88 := (I0.other W83 (by omega : @Ne Nat o0 o2))
      have pre89 : ∀ t, Steps p.tables e below (T83.setTop (mkF m 3 #[.val (.ref o0), .val (.int ((Int32.ofNat i) + (1 : Int32))), .val (.ref o2), .val (.int ((Int32.ofNat i) + (1 : Int32))), .val (.int (Int32.ofNat cs.length)), .val (.int ((Int32.ofNat i) + (1 : Int32))), .val (.int (cs.getD i 0))] [])) t → Steps p.tables e below (Tk.setTop (mkF m 3 #[.val (.ref o0), .val (.int (Int32.ofNat i)), .val (.ref o2), .val (.int (Int32.ofNat i)), .val (.int (Int32.ofNat cs.length)), .val (.int (Int32.ofNat i)), sl] [])) t := fun t k => by
        refine preL _ ?_
        show Steps p.tables e below (Tk.setTop (mkF m 3 #[.val (.ref o0), .val (.int (Int32.ofNat i)), .val (.ref o2), .val (.int (Int32.ofNat i)), .val (.int (Int32.ofNat cs.length)), .val (.int (Int32.ofNat i)), sl] [])) _
        refine XS.iload Xk.here hx rfl (hb hby d17_3) rfl ?_
        show Steps p.tables e below (Tk.setTop (mkF m 5 #[.val (.ref o0), .val (.int (Int32.ofNat i)), .val (.ref o2), .val (.int (Int32.ofNat i)), .val (.int (Int32.ofNat cs.length)), .val (.int (Int32.ofNat i)), sl] [(.int (Int32.ofNat i))])) _
        refine XS.iload Xk.here hx rfl (hb hby d17_5) rfl ?_
        show Steps p.tables e below (Tk.setTop (mkF m 7 #[.val (.ref o0), .val (.int (Int32.ofNat i)), .val (.ref o2), .val (.int (Int32.ofNat i)), .val (.int (Int32.ofNat cs.length)), .val (.int (Int32.ofNat i)), sl] [(.int (Int32.ofNat cs.length)), (.int (Int32.ofNat i))])) _
        refine XS.icmpNo Xk.here hx rfl (hb hby d17_7) rfl (tlt ((own_in (by omega) (by omega)).2 : (Int32.ofNat i) < (Int32.ofNat cs.length))).2.1 ?_
        show Steps p.tables e below (Tk.setTop (mkF m 10 #[.val (.ref o0), .val (.int (Int32.ofNat i)), .val (.ref o2), .val (.int (Int32.ofNat i)), .val (.int (Int32.ofNat cs.length)), .val (.int (Int32.ofNat i)), sl] [])) _
        refine XS.aloadN Xk.here hx rfl (hb hby d17_10) rfl rfl ?_
        show Steps p.tables e below (Tk.setTop (mkF m 11 #[.val (.ref o0), .val (.int (Int32.ofNat i)), .val (.ref o2), .val (.int (Int32.ofNat i)), .val (.int (Int32.ofNat cs.length)), .val (.int (Int32.ofNat i)), sl] [(.ref o0)])) _
        refine XS.iloadN Xk.here hx rfl (hb hby d17_11) rfl ?_
        show Steps p.tables e below (Tk.setTop (mkF m 12 #[.val (.ref o0), .val (.int (Int32.ofNat i)), .val (.ref o2), .val (.int (Int32.ofNat i)), .val (.int (Int32.ofNat cs.length)), .val (.int (Int32.ofNat i)), sl] [(.int (Int32.ofNat i)), (.ref o0)])) _
        refine Xk.caload hx (j := (Int32.ofNat i)) (v := (.int (cs.getD i 0))) (by rw [ek]; exact Ar81.1) (State.isArrayOf_alike hZ.alike Ar81.2.1) Ar81.2.2 hin81 hat81 (g := (mkF m 12 #[.val (.ref o0), .val (.int (Int32.ofNat i)), .val (.ref o2), .val (.int (Int32.ofNat i)), .val (.int (Int32.ofNat cs.length)), .val (.int (Int32.ofNat i)), sl] [(.int (Int32.ofNat i)), (.ref o0)])) rfl rfl (hb hby d17_12) _ ?_
        show Steps p.tables e below (Tk.setTop (mkF m 13 #[.val (.ref o0), .val (.int (Int32.ofNat i)), .val (.ref o2), .val (.int (Int32.ofNat i)), .val (.int (Int32.ofNat cs.length)), .val (.int (Int32.ofNat i)), sl] [(.int (cs.getD i 0))])) _
        refine XS.istore Xk.here hx rfl (hb hby d17_13) rfl (l' := #[.val (.ref o0), .val (.int (Int32.ofNat i)), .val (.ref o2), .val (.int (Int32.ofNat i)), .val (.int (Int32.ofNat cs.length)), .val (.int (Int32.ofNat i)), .val (.int (cs.getD i 0))]) (by rcases I2 with q | ⟨w, q⟩ <;> (rw [q]; rfl)) ?_
        show Steps p.tables e below (Tk.setTop (mkF m 15 #[.val (.ref o0), .val (.int (Int32.ofNat i)), .val (.ref o2), .val (.int (Int32.ofNat i)), .val (.int (Int32.ofNat cs.length)), .val (.int (Int32.ofNat i)), .val (.int (cs.getD i 0))] [])) _
        refine XS.iload Xk.here hx rfl (hb hby d17_15) rfl ?_
        show Steps p.tables e below (Tk.setTop (mkF m 17 #[.val (.ref o0), .val (.int (Int32.ofNat i)), .val (.ref o2), .val (.int (Int32.ofNat i)), .val (.int (Int32.ofNat cs.length)), .val (.int (Int32.ofNat i)), .val (.int (cs.getD i 0))] [(.int (cs.getD i 0))])) _
        refine XS.sipush Xk.here hx rfl (hb hby d17_17) ?_
        show Steps p.tables e below (Tk.setTop (mkF m 20 #[.val (.ref o0), .val (.int (Int32.ofNat i)), .val (.ref o2), .val (.int (Int32.ofNat i)), .val (.int (Int32.ofNat cs.length)), .val (.int (Int32.ofNat i)), .val (.int (cs.getD i 0))] [(.int (255 : Int32)), (.int (cs.getD i 0))])) _
        refine XS.icmpYes Xk.here hx rfl (pc0 := 20) (pc' := 26) rfl (hb hby d17_20) rfl (flt ((jb i (by omega)) : ¬ ((255 : Int32) < (cs.getD i 0)))).2.2.2 (by decide) (by decide) ?_
        show Steps p.tables e below (Tk.setTop (mkF m 26 #[.val (.ref o0), .val (.int (Int32.ofNat i)), .val (.ref o2), .val (.int (Int32.ofNat i)), .val (.int (Int32.ofNat cs.length)), .val (.int (Int32.ofNat i)), .val (.int (cs.getD i 0))] [])) _
        refine XS.aloadN Xk.here hx rfl (hb hby d17_26) rfl rfl ?_
        show Steps p.tables e below (Tk.setTop (mkF m 27 #[.val (.ref o0), .val (.int (Int32.ofNat i)), .val (.ref o2), .val (.int (Int32.ofNat i)), .val (.int (Int32.ofNat cs.length)), .val (.int (Int32.ofNat i)), .val (.int (cs.getD i 0))] [(.ref o2)])) _
        refine XS.iloadN Xk.here hx rfl (hb hby d17_27) rfl ?_
        show Steps p.tables e below (Tk.setTop (mkF m 28 #[.val (.ref o0), .val (.int (Int32.ofNat i)), .val (.ref o2), .val (.int (Int32.ofNat i)), .val (.int (Int32.ofNat cs.length)), .val (.int (Int32.ofNat i)), .val (.int (cs.getD i 0))] [(.int (Int32.ofNat i)), (.ref o2)])) _
        refine XS.iload Xk.here hx rfl (hb hby d17_28) rfl ?_
        show Steps p.tables e below (Tk.setTop (mkF m 30 #[.val (.ref o0), .val (.int (Int32.ofNat i)), .val (.ref o2), .val (.int (Int32.ofNat i)), .val (.int (Int32.ofNat cs.length)), .val (.int (Int32.ofNat i)), .val (.int (cs.getD i 0))] [(.int (cs.getD i 0)), (.int (Int32.ofNat i)), (.ref o2)])) _
        refine XS.i2b Xk.here hx rfl (hb hby d17_30) rfl ?_
        show Steps p.tables e below (Tk.setTop (mkF m 31 #[.val (.ref o0), .val (.int (Int32.ofNat i)), .val (.ref o2), .val (.int (Int32.ofNat i)), .val (.int (Int32.ofNat cs.length)), .val (.int (Int32.ofNat i)), .val (.int (cs.getD i 0))] [(.int ((cs.getD i 0).toInt8.toInt32)), (.int (Int32.ofNat i)), (.ref o2)])) _
        refine st83 _ ?_
        show Steps p.tables e below (T83.setTop (mkF m 32 #[.val (.ref o0), .val (.int (Int32.ofNat i)), .val (.ref o2), .val (.int (Int32.ofNat i)), .val (.int (Int32.ofNat cs.length)), .val (.int (Int32.ofNat i)), .val (.int (cs.getD i 0))] [])) _
        refine XS.iinc X83.here hx rfl (hb hby d17_32) rfl (l' := #[.val (.ref o0), .val (.int ((Int32.ofNat i) + (1 : Int32))), .val (.ref o2), .val (.int (Int32.ofNat i)), .val (.int (Int32.ofNat cs.length)), .val (.int (Int32.ofNat i)), .val (.int (cs.getD i 0))]) rfl ?_
        show Steps p.tables e below (T83.setTop (mkF m 35 #[.val (.ref o0), .val (.int ((Int32.ofNat i) + (1 : Int32))), .val (.ref o2), .val (.int (Int32.ofNat i)), .val (.int (Int32.ofNat cs.length)), .val (.int (Int32.ofNat i)), .val (.int (cs.getD i 0))] [])) _
        refine XS.iinc X83.here hx rfl (hb hby d17_35) rfl (l' := #[.val (.ref o0), .val (.int ((Int32.ofNat i) + (1 : Int32))), .val (.ref o2), .val (.int ((Int32.ofNat i) + (1 : Int32))), .val (.int (Int32.ofNat cs.length)), .val (.int (Int32.ofNat i)), .val (.int (cs.getD i 0))]) rfl ?_
        show Steps p.tables e below (T83.setTop (mkF m 38 #[.val (.ref o0), .val (.int ((Int32.ofNat i) + (1 : Int32))), .val (.ref o2), .val (.int ((Int32.ofNat i) + (1 : Int32))), .val (.int (Int32.ofNat cs.length)), .val (.int (Int32.ofNat i)), .val (.int (cs.getD i 0))] [])) _
        refine XS.iinc X83.here hx rfl (hb hby d17_38) rfl (l' := #[.val (.ref o0), .val (.int ((Int32.ofNat i) + (1 : Int32))), .val (.ref o2), .val (.int ((Int32.ofNat i) + (1 : Int32))), .val (.int (Int32.ofNat cs.length)), .val (.int ((Int32.ofNat i) + (1 : Int32))), .val (.int (cs.getD i 0))]) rfl ?_
        show Steps p.tables e below (T83.setTop (mkF m 41 #[.val (.ref o0), .val (.int ((Int32.ofNat i) + (1 : Int32))), .val (.ref o2), .val (.int ((Int32.ofNat i) + (1 : Int32))), .val (.int (Int32.ofNat cs.length)), .val (.int ((Int32.ofNat i) + (1 : Int32))), .val (.int (cs.getD i 0))] [])) _
        refine XS.goto X83.here hx rfl (pc0 := 41) (pc' := 3) rfl (hb hby d17_41) (by decide) (by decide) ?_
        exact k
      have pre90 : ∀ t, Steps p.tables e below (T83.setTop (mkF m 3 #[.val (.ref o0), .val (.int (Int32.ofNat (i + 1))), .val (.ref o2), .val (.int (Int32.ofNat (i + 1))), .val (.int (Int32.ofNat cs.length)), .val (.int (Int32.ofNat (i + 1))), .val (.int (cs.getD i 0))] [])) t → Steps p.tables e below (Tk.setTop (mkF m 3 #[.val (.ref o0), .val (.int (Int32.ofNat i)), .val (.ref o2), .val (.int (Int32.ofNat i)), .val (.int (Int32.ofNat cs.length)), .val (.int (Int32.ofNat i)), sl] [])) t := fun t k => pre89 t (by rw [own_inc (by omega)]; exact k)
      obtain ⟨T86, L86, h86, oxso_86, X86, e86, N86, K86, z86, R86_0, R86_1, R86_2, st86⟩ := ih (i + 1) _ _ _ (.val (.int (cs.getD i 0))) (by omega) X83 e83 N83 KC85 (by omega) Fc88 Vt87 (Or.inr ⟨_, rfl⟩)
      exact ⟨T86, L86, h86, oxso_86, X86, e86, N86, K86, z86, R86_0, R86_1, R86_2, fun t kt => pre90 t (st86 t kt)⟩
  have Vs92 := H1
  rw [← own_lat0] at Vs92
  obtain ⟨T91, L91, h91, so, X91, e91, N91, K91, z91, P91_0, P91_1, P91_2, st91⟩ := lp75 (j) (0) _ _ _ .unset (by omega) X0 e0 N0 KC0 (Nat.le_refl _) H0 Vs92 (Or.inl rfl)
  have z93 : @LT.lt Nat _ o0 (Array.size h91) := P91_0.lt
  have z94 : @LT.lt Nat _ o2 (Array.size h91) := P91_1.lt
  have pre95 : ∀ t, Steps p.tables e below (T91.setTop (mkF m 7 #[.val (.ref o0), .val (.int (Int32.ofNat j)), .val (.ref o2), .val (.int (Int32.ofNat j)), .val (.int (Int32.ofNat cs.length)), .val (.int (Int32.ofNat j)), so] [(.int (Int32.ofNat cs.length)), (.int (Int32.ofNat j))])) t → Steps p.tables e below (s₁.setTop (entryFrame m #[(.ref o0), (.int (0 : Int32)), (.ref o2), (.int (0 : Int32)), (.int (Int32.ofNat cs.length))] 7)) t := fun t k => by
    refine pre74 _ ?_
    refine st91 _ ?_
    show Steps p.tables e below (T91.setTop (mkF m 3 #[.val (.ref o0), .val (.int (Int32.ofNat j)), .val (.ref o2), .val (.int (Int32.ofNat j)), .val (.int (Int32.ofNat cs.length)), .val (.int (Int32.ofNat j)), so] [])) _
    refine XS.iload X91.here hx rfl (hb hby d17_3) rfl ?_
    show Steps p.tables e below (T91.setTop (mkF m 5 #[.val (.ref o0), .val (.int (Int32.ofNat j)), .val (.ref o2), .val (.int (Int32.ofNat j)), .val (.int (Int32.ofNat cs.length)), .val (.int (Int32.ofNat j)), so] [(.int (Int32.ofNat j))])) _
    refine XS.iload X91.here hx rfl (hb hby d17_5) rfl ?_
    exact k
  by_cases hc96 : (Int32.ofNat j) < (Int32.ofNat cs.length)
  · obtain ⟨cl97, Ar97, q97, S97, N97', H97, G97⟩ := id P91_0
    have jl : j < cs.length := (own_ltn (by omega) (by omega)).mp hc96
    have hin97 : ¬ ((Int32.ofNat j) < 0 ∨ cl97.slots.size ≤ ((Int32.ofNat j)).toNatClampNeg) := inb_of S97 (own_in (by omega) (by omega))
    have hat97 : cl97.slots[((Int32.ofNat j)).toNatClampNeg]? = some (.int (cs.getD j 0)) := H97.at hin97 (by rw [own_tn (by omega)]; simp [List.getD_eq_getElem?_getD, show j < cs.length from by omega])
    obtain ⟨fs, hr, hrun, hended, hW, hsame⟩ := X91.leave (v := some (.int (Int32.ofNat j))) (fun h => by rw [Bd.returns] at h; cases h)
    refine ⟨_, _, pre95 _ ?_, hrun, hended, _, _, rfl, ?_, ⟨_, rfl⟩, hW, hsame.mono (by decide) (by decide)⟩
    · show Steps p.tables e below (T91.setTop (mkF m 7 #[.val (.ref o0), .val (.int (Int32.ofNat j)), .val (.ref o2), .val (.int (Int32.ofNat j)), .val (.int (Int32.ofNat cs.length)), .val (.int (Int32.ofNat j)), so] [(.int (Int32.ofNat cs.length)), (.int (Int32.ofNat j))])) _
      refine XS.icmpNo X91.here hx rfl (hb hby d17_7) rfl (tlt (hc96 : (Int32.ofNat j) < (Int32.ofNat cs.length))).2.1 ?_
      show Steps p.tables e below (T91.setTop (mkF m 10 #[.val (.ref o0), .val (.int (Int32.ofNat j)), .val (.ref o2), .val (.int (Int32.ofNat j)), .val (.int (Int32.ofNat cs.length)), .val (.int (Int32.ofNat j)), so] [])) _
      refine XS.aloadN X91.here hx rfl (hb hby d17_10) rfl rfl ?_
      show Steps p.tables e below (T91.setTop (mkF m 11 #[.val (.ref o0), .val (.int (Int32.ofNat j)), .val (.ref o2), .val (.int (Int32.ofNat j)), .val (.int (Int32.ofNat cs.length)), .val (.int (Int32.ofNat j)), so] [(.ref o0)])) _
      refine XS.iloadN X91.here hx rfl (hb hby d17_11) rfl ?_
      show Steps p.tables e below (T91.setTop (mkF m 12 #[.val (.ref o0), .val (.int (Int32.ofNat j)), .val (.ref o2), .val (.int (Int32.ofNat j)), .val (.int (Int32.ofNat cs.length)), .val (.int (Int32.ofNat j)), so] [(.int (Int32.ofNat j)), (.ref o0)])) _
      refine X91.caload hx (j := (Int32.ofNat j)) (v := (.int (cs.getD j 0))) (by rw [e91]; exact Ar97.1) (State.isArrayOf_alike hZ.alike Ar97.2.1) Ar97.2.2 hin97 hat97 (g := (mkF m 12 #[.val (.ref o0), .val (.int (Int32.ofNat j)), .val (.ref o2), .val (.int (Int32.ofNat j)), .val (.int (Int32.ofNat cs.length)), .val (.int (Int32.ofNat j)), so] [(.int (Int32.ofNat j)), (.ref o0)])) rfl rfl (hb hby d17_12) _ ?_
      show Steps p.tables e below (T91.setTop (mkF m 13 #[.val (.ref o0), .val (.int (Int32.ofNat j)), .val (.ref o2), .val (.int (Int32.ofNat j)), .val (.int (Int32.ofNat cs.length)), .val (.int (Int32.ofNat j)), so] [(.int (cs.getD j 0))])) _
      refine XS.istore X91.here hx rfl (hb hby d17_13) rfl (l' := #[.val (.ref o0), .val (.int (Int32.ofNat j)), .val (.ref o2), .val (.int (Int32.ofNat j)), .val (.int (Int32.ofNat cs.length)), .val (.int (Int32.ofNat j)), .val (.int (cs.getD j 0))]) (by rcases P91_2 with q | ⟨w, q⟩ <;> (rw [q]; rfl)) ?_
      show Steps p.tables e below (T91.setTop (mkF m 15 #[.val (.ref o0), .val (.int (Int32.ofNat j)), .val (.ref o2), .val (.int (Int32.ofNat j)), .val (.int (Int32.ofNat cs.length)), .val (.int (Int32.ofNat j)), .val (.int (cs.getD j 0))] [])) _
      refine XS.iload X91.here hx rfl (hb hby d17_15) rfl ?_
      show Steps p.tables e below (T91.setTop (mkF m 17 #[.val (.ref o0), .val (.int (Int32.ofNat j)), .val (.ref o2), .val (.int (Int32.ofNat j)), .val (.int (Int32.ofNat cs.length)), .val (.int (Int32.ofNat j)), .val (.int (cs.getD j 0))] [(.int (cs.getD j 0))])) _
      refine XS.sipush X91.here hx rfl (hb hby d17_17) ?_
      show Steps p.tables e below (T91.setTop (mkF m 20 #[.val (.ref o0), .val (.int (Int32.ofNat j)), .val (.ref o2), .val (.int (Int32.ofNat j)), .val (.int (Int32.ofNat cs.length)), .val (.int (Int32.ofNat j)), .val (.int (cs.getD j 0))] [(.int (255 : Int32)), (.int (cs.getD j 0))])) _
      refine XS.icmpNo X91.here hx rfl (hb hby d17_20) rfl (tlt ((Decidable.not_not.mp (jc jl)) : (255 : Int32) < (cs.getD j 0))).2.2.2 ?_
      show Steps p.tables e below (T91.setTop (mkF m 23 #[.val (.ref o0), .val (.int (Int32.ofNat j)), .val (.ref o2), .val (.int (Int32.ofNat j)), .val (.int (Int32.ofNat cs.length)), .val (.int (Int32.ofNat j)), .val (.int (cs.getD j 0))] [])) _
      refine XS.iload X91.here hx rfl (hb hby d17_23) rfl ?_
      show Steps p.tables e below (T91.setTop (mkF m 25 #[.val (.ref o0), .val (.int (Int32.ofNat j)), .val (.ref o2), .val (.int (Int32.ofNat j)), .val (.int (Int32.ofNat cs.length)), .val (.int (Int32.ofNat j)), .val (.int (cs.getD j 0))] [(.int (Int32.ofNat j))])) _
      exact retI X91 hx Bd.returns (hb hby d17_25) hr
    · show QrmC5 Z o0 o2 kc kb cs h0 n0 _ T91.heap _
      rw [e91]
      exact ⟨j, rfl, N91, K91, P91_1, ⟨ja, jb, fun q => Decidable.not_not.mp (jc q)⟩⟩
  · have ejn : cs.length = j := by have q : ¬ (j < cs.length) := fun k => hc96 ((own_ltn (by omega) (by omega)).mpr k); omega
    have pre98 : ∀ t, Steps p.tables e below (T91.setTop (mkF m 44 #[.val (.ref o0), .val (.int (Int32.ofNat j)), .val (.ref o2), .val (.int (Int32.ofNat j)), .val (.int (Int32.ofNat cs.length)), .val (.int (Int32.ofNat j)), so] [])) t → Steps p.tables e below (s₁.setTop (entryFrame m #[(.ref o0), (.int (0 : Int32)), (.ref o2), (.int (0 : Int32)), (.int (Int32.ofNat cs.length))] 7)) t := fun t k => by
      refine pre95 _ ?_
      show Steps p.tables e below (T91.setTop (mkF m 7 #[.val (.ref o0), .val (.int (Int32.ofNat j)), .val (.ref o2), .val (.int (Int32.ofNat j)), .val (.int (Int32.ofNat cs.length)), .val (.int (Int32.ofNat j)), so] [(.int (Int32.ofNat cs.length)), (.int (Int32.ofNat j))])) _
      refine XS.icmpYes X91.here hx rfl (pc0 := 7) (pc' := 44) rfl (hb hby d17_7) rfl (flt (hc96 : ¬ ((Int32.ofNat j) < (Int32.ofNat cs.length)))).2.1 (by decide) (by decide) ?_
      exact k
    have pre99 : ∀ t, Steps p.tables e below (T91.setTop (mkF m 44 #[.val (.ref o0), .val (.int (Int32.ofNat j)), .val (.ref o2), .val (.int (Int32.ofNat j)), .val (.int (Int32.ofNat j)), .val (.int (Int32.ofNat j)), so] [])) t → Steps p.tables e below (s₁.setTop (entryFrame m #[(.ref o0), (.int (0 : Int32)), (.ref o2), (.int (0 : Int32)), (.int (Int32.ofNat cs.length))] 7)) t := fun t k => pre98 t (by rw [ejn]; exact k)
    obtain ⟨fs, hr, hrun, hended, hW, hsame⟩ := X91.leave (v := some (.int (Int32.ofNat j))) (fun h => by rw [Bd.returns] at h; cases h)
    refine ⟨_, _, pre99 _ ?_, hrun, hended, _, _, rfl, ?_, ⟨_, rfl⟩, hW, hsame.mono (by decide) (by decide)⟩
    · show Steps p.tables e below (T91.setTop (mkF m 44 #[.val (.ref o0), .val (.int (Int32.ofNat j)), .val (.ref o2), .val (.int (Int32.ofNat j)), .val (.int (Int32.ofNat j)), .val (.int (Int32.ofNat j)), so] [])) _
      refine XS.iload X91.here hx rfl (hb hby d17_44) rfl ?_
      show Steps p.tables e below (T91.setTop (mkF m 46 #[.val (.ref o0), .val (.int (Int32.ofNat j)), .val (.ref o2), .val (.int (Int32.ofNat j)), .val (.int (Int32.ofNat j)), .val (.int (Int32.ofNat j)), so] [(.int (Int32.ofNat j))])) _
      exact retI X91 hx Bd.returns (hb hby d17_46) hr
    · show QrmC5 Z o0 o2 kc kb cs h0 n0 _ T91.heap _
      rw [e91]
      exact ⟨j, rfl, N91, K91, P91_1, ⟨ja, jb, fun q => Decidable.not_not.mp (jc q)⟩⟩
def own_bd (cs : List Int32) : Prop := ∀ c ∈ cs, ¬ c < 0 ∧ ¬ (65535 : Int32) < c
theorem own_bdg {cs : List Int32} (h : own_bd cs) {i : Nat} (hi : i < cs.length) : ¬ (cs.getD i 0 < 0) ∧ ¬ ((65535 : Int32) < cs.getD i 0) := by
  have e : cs.getD i 0 = cs[i] := by simp [List.getD_eq_getElem?_getD, hi]
  rw [e]; exact h _ (List.getElem_mem hi)
theorem own_mem {cs : List Int32} {P : Int32 → Prop} (h : ∀ i, i < cs.length → P (cs.getD i 0)) : ∀ c ∈ cs, P c := fun c hc => by
  obtain ⟨i, hi, rfl⟩ := List.getElem_of_mem hc
  have e : cs.getD i 0 = cs[i] := by simp [List.getD_eq_getElem?_getD, hi]
  rw [← e]; exact h i hi
theorem own_get {cs : List Int32} {P : Int32 → Prop} (h : ∀ c ∈ cs, P c) {i : Nat} (hi : i < cs.length) : P (cs.getD i 0) := by
  have e : cs.getD i 0 = cs[i] := by simp [List.getD_eq_getElem?_getD, hi]
  rw [e]; exact h _ (List.getElem_mem hi)
def own_cod (cs : List Int32) (z : Int32) (M : Nat) (bs : List Value) : Prop := (z = 0 ∧ M = cs.length ∧ bs = cs.map (fun c => Value.int (lo8 c)) ∧ ∀ c ∈ cs, ¬ (255 : Int32) < c) ∨ (z = 1 ∧ M = 2 * cs.length ∧ bs = wideBytes cs ∧ 0 < cs.length)
theorem own_c01 {cs : List Int32} {z : Int32} {M : Nat} {bs : List Value} (h : own_cod cs z M bs) : z = 0 ∨ z = 1 := h.imp (fun k => k.1) fun k => k.1
theorem own_cz {cs : List Int32} {z : Int32} {M : Nat} {bs : List Value} (h : own_cod cs z M bs) : nar .byte z = z := by
  rcases own_c01 h with k | k <;> rw [k] <;> rfl
theorem own_cfl1 : ∀ n : Fin 13, n.val ≠ 0 → nar .byte ((((Int32.ofNat n.val - Int32.ofNat (2 * n.val)).toUInt32 >>> ((31 : Int32) &&& 31).toUInt32).toInt32).toInt8.toInt32) = 1 := by decide +kernel
theorem own_cfl {cs : List Int32} {z : Int32} {M : Nat} {bs : List Value} (h : own_cod cs z M bs) (hn : cs.length ≤ 12) : nar .byte ((((Int32.ofNat cs.length - Int32.ofNat M).toUInt32 >>> ((31 : Int32) &&& 31).toUInt32).toInt32).toInt8.toInt32) = z := by
  rcases h with ⟨rfl, rfl, -, -⟩ | ⟨rfl, rfl, -, h0⟩
  · rw [Int32.sub_self]; rfl
  · exact own_cfl1 ⟨cs.length, by omega⟩ (by show cs.length ≠ 0; omega)
theorem own_len {cs : List Int32} {z : Int32} {M : Nat} {bs : List Value} (h : own_cod cs z M bs) (hn : cs.length ≤ 1000) : (Int32.ofNat M >>> (z &&& 31)) = Int32.ofNat cs.length := by
  rcases h with ⟨rfl, rfl, -, -⟩ | ⟨rfl, rfl, -, h0⟩
  · exact shr0 _
  · exact shr1 (by omega)
theorem own_emp {cs : List Int32} {z : Int32} {M : Nat} {bs : List Value} (h : own_cod cs z M bs) (hn : cs.length ≤ 1000) : Int32.ofNat M = 0 ↔ cs = [] := by
  have e : Int32.ofNat M = 0 ↔ M = 0 := own_eqi (b := 0) (by rcases h with ⟨-, rfl, -, -⟩ | ⟨-, rfl, -, -⟩ <;> omega) (by decide)
  rw [e, ← List.length_eq_zero_iff]
  rcases h with ⟨-, rfl, -, -⟩ | ⟨-, rfl, -, -⟩ <;> omega
theorem own_l8 (c : Int32) (h0 : ¬ c < 0) (h1 : ¬ 255 < c) : nar .char ((lo8 c &&& 255).toUInt32.toUInt16.toUInt32.toInt32) = c := by
  have e : (lo8 c &&& 255).toUInt32.toUInt16.toUInt32.toInt32 = c := chr8_lo8 h0 h1
  rw [e]; exact own_narw c ⟨h0, fun k => h1 (by rw [Int32.lt_iff_toInt_lt] at k ⊢; have e1 : (65535 : Int32).toInt = 65535 := rfl; have e2 : (255 : Int32).toInt = 255 := rfl; omega)⟩
theorem own_rf {v : Value} (h : v.isRef = true) : ∃ w : Addr, v = .null ∨ v = .ref w := by
  cases v <;> first | exact ⟨0, Or.inl rfl⟩ | exact ⟨_, Or.inr rfl⟩ | (cases h)
def own_ok (c : Int32) : Prop := (¬ c < 65 ∧ ¬ 90 < c) ∨ (¬ c < 97 ∧ ¬ 122 < c) ∨ (¬ c < 48 ∧ ¬ 57 < c) ∨ c = 46 ∨ c = 95 ∨ c = 58 ∨ c = 45
instance (c : Int32) : Decidable (own_ok c) := by unfold own_ok; infer_instance
def own_val (cs : List Int32) : Prop := cs ≠ [] ∧ cs.length ≤ 128 ∧ ∀ c ∈ cs, own_ok c
instance (cs : List Int32) : Decidable (own_val cs) := by unfold own_val; infer_instance
theorem d16_0 : decode jdk_52_method_16_code 0 = .ok (.iload_n 2, 1) := by decide +kernel
theorem d16_1 : decode jdk_52_method_16_code 1 = .ok (.newarray .byte, 2) := by decide +kernel
theorem d16_3 : decode jdk_52_method_16_code 3 = .ok (.astore_n 3, 1) := by decide +kernel
theorem d16_4 : decode jdk_52_method_16_code 4 = .ok (.aload_n 0, 1) := by decide +kernel
theorem d16_5 : decode jdk_52_method_16_code 5 = .ok (.iload_n 1, 1) := by decide +kernel
theorem d16_6 : decode jdk_52_method_16_code 6 = .ok (.aload_n 3, 1) := by decide +kernel
theorem d16_7 : decode jdk_52_method_16_code 7 = .ok (.iconst 0, 1) := by decide +kernel
theorem d16_8 : decode jdk_52_method_16_code 8 = .ok (.iload_n 2, 1) := by decide +kernel
theorem d16_9 : decode jdk_52_method_16_code 9 = .ok (.invokestatic 115, 3) := by decide +kernel
theorem pd_3 : parseMethodDescriptor "([CI[BII)I" = some ⟨[(.array .char), .int, (.array .byte), .int, .int], some .int⟩ := by decide +kernel
theorem d16_12 : decode jdk_52_method_16_code 12 = .ok (.istore 4, 2) := by decide +kernel
theorem d16_14 : decode jdk_52_method_16_code 14 = .ok (.iload 4, 2) := by decide +kernel
theorem d16_16 : decode jdk_52_method_16_code 16 = .ok (.iload_n 2, 1) := by decide +kernel
theorem d16_17 : decode jdk_52_method_16_code 17 = .ok (.if_icmp .eq 40, 3) := by decide +kernel
theorem d16_57 : decode jdk_52_method_16_code 57 = .ok (.aload_n 3, 1) := by decide +kernel
theorem d16_58 : decode jdk_52_method_16_code 58 = .ok (.areturn, 1) := by decide +kernel
theorem d16_20 : decode jdk_52_method_16_code 20 = .ok (.aload_n 0, 1) := by decide +kernel
theorem d16_21 : decode jdk_52_method_16_code 21 = .ok (.iload_n 1, 1) := by decide +kernel
theorem d16_22 : decode jdk_52_method_16_code 22 = .ok (.iload_n 2, 1) := by decide +kernel
theorem d16_23 : decode jdk_52_method_16_code 23 = .ok (.invokestatic 119, 3) := by decide +kernel
theorem pd_4 : parseMethodDescriptor "([CII)[B" = some ⟨[(.array .char), .int, .int], some (.array .byte)⟩ := by decide +kernel
theorem d16_26 : decode jdk_52_method_16_code 26 = .ok (.astore 5, 2) := by decide +kernel
theorem d16_28 : decode jdk_52_method_16_code 28 = .ok (.aload 5, 2) := by decide +kernel
theorem d16_30 : decode jdk_52_method_16_code 30 = .ok (.iload 4, 2) := by decide +kernel
theorem d16_32 : decode jdk_52_method_16_code 32 = .ok (.invokestatic 71, 3) := by decide +kernel
theorem pd_5 : parseMethodDescriptor "([BI)C" = some ⟨[(.array .byte), .int], some .char⟩ := by decide +kernel
theorem d16_35 : decode jdk_52_method_16_code 35 = .ok (.sipush 255, 3) := by decide +kernel
theorem d16_38 : decode jdk_52_method_16_code 38 = .ok (.if_icmp .gt 16, 3) := by decide +kernel
theorem d16_54 : decode jdk_52_method_16_code 54 = .ok (.aload 5, 2) := by decide +kernel
theorem d16_56 : decode jdk_52_method_16_code 56 = .ok (.areturn, 1) := by decide +kernel
theorem ef_rmC3 (m : MethodId) (o0 : Addr) (cs : List Int32) : entryFrame m #[(.ref o0), (.int (0 : Int32)), (.int (Int32.ofNat cs.length))] 6 = mkF m 0 #[.val (.ref o0), .val (.int (0 : Int32)), .val (.int (Int32.ofNat cs.length)), .unset, .unset, .unset] [] := by first | (simp [entryFrame, mkF, argsToLocals, Value.category]; done) | rfl
def QrmC3 (Z : State) (o0 : Addr) (kc : ClassId) (cs : List Int32) (h0 : Heap) (n0 : Nat) (v : Option Value) (h : Heap) (L : List Loc) : Prop := ∃ r : Addr, ∃ kb : ClassId, ∃ z : Int32, ∃ M : Nat, ∃ bs : List Value, v = some (.ref r) ∧ Fr n0 L ∧ Keep h0 h [] ∧ Arv Z h r kb .byte (Int32.ofNat M) bs (.int (0 : Int32)) ∧ (own_cod cs z M bs) ∧ (h0.size ≤ r)
set_option maxRecDepth 65536 in
set_option maxHeartbeats 40000000 in
theorem rmC3 (l : Launch) (Z : State) (a0 : Array Value) (hw : ∀ d ∈ tables_1, d.before a0 Z = true) (ws : List Jvm.Cond) (o0 : Addr) (kc : ClassId) (cs : List Int32) (h0 : Heap) (n0 : Nat) (Z0 : n0 ≤ h0.size) (H0 : Sta Z h0 "java/lang/StringUTF16" "$assertionsDisabled" "Z" (.int (1 : Int32))) (H1 : Sta Z h0 "java/lang/StringUTF16" "HI_BYTE_SHIFT" "I" (.int (0 : Int32))) (H2 : Sta Z h0 "java/lang/StringUTF16" "LO_BYTE_SHIFT" "I" (.int (8 : Int32))) (H3 : Arv Z h0 o0 kc .char (Int32.ofNat cs.length) (cs.map Value.int) (.int (0 : Int32))) (hn : cs.length ≤ 12) (hbd : own_bd cs) :
    MetFree l (⟨"java/lang/StringUTF16", "compress", "([CII)[B"⟩ : MethodName) (head1 (Jvm.Cond.code (⟨"java/lang/StringUTF16", "compress", "([CII)[B"⟩ : MethodName) jdk_52_method_16_code 6 (some (.array .byte)) :: ws) ({ frames := 3, cells := 2, slots := 36, locals := 40 } : Room)) (fun a U => a = #[(.ref o0), (.int (0 : Int32)), (.int (Int32.ofNat cs.length))] ∧ Z.Warmed39 U.vm ∧ U.heap = h0) (fun _ _ _ _ _ => True) (fun _ U o U' => ∃ v L, o = .returned v ∧ QrmC3 Z o0 kc cs h0 n0 v U'.heap L ∧ FrameEnd U o U' L ({ frames := 3, cells := 2, slots := 36, locals := 40 } : Room).cells ({ frames := 3, cells := 2, slots := 36, locals := 40 } : Room).slots) := by
  refine MetFree.of_bodySF (plainFor_of_name pn_22) hisR ?_
  intro p e s m args below meth c s₁ Bd hml0 hP hK
  obtain ⟨rfl, hZ, hh⟩ := hP
  have hx := Bd.exec
  have hby := Bd.bytes
  have hml : c.maxLocals = 6 := hml0
  have hown : s.vm.findClass "java/lang/StringUTF16" = some m.cls := findClass_of_methodNamed Bd.named
  have hnm := (name_of_methodNamed Bd.named Bd.method).1
  have X0 : Stand p l e ({ frames := 3, cells := 2, slots := 36, locals := 40 } : Room) s m #[(.ref o0), (.int (0 : Int32)), (.int (Int32.ofNat cs.length))] below meth c s₁ [] 0 0 := Stand.of_body Bd
  have e0 : s₁.heap = h0 := by rw [← hh, Bd.state]; rfl
  have N0 := Fr.nil n0
  have pre0 : ∀ t, Steps p.tables e below (s₁.setTop (mkF m 0 #[.val (.ref o0), .val (.int (0 : Int32)), .val (.int (Int32.ofNat cs.length)), .unset, .unset, .unset] [])) t → Steps p.tables e below (s₁.setTop (entryFrame m #[(.ref o0), (.int (0 : Int32)), (.int (Int32.ofNat cs.length))] 6)) t := fun t k => castTop (ef_rmC3 m o0 cs) k
  have z100 : @LT.lt Nat _ o0 (Array.size h0) := H3.lt
  have KC0 : Keep h0 h0 [] := Keep.refl _ _
  obtain ⟨T101, h101, k101, X101, e101, E101, A101, st101⟩ := newP X0 hx hZ (hw _ (List.mem_of_getElem? (i := 16) rfl)) e0 (g := (mkF m 1 #[.val (.ref o0), .val (.int (0 : Int32)), .val (.int (Int32.ofNat cs.length)), .unset, .unset, .unset] [(.int (Int32.ofNat cs.length))])) rfl (hb hby d16_1) rfl (fun k => by rw [Int32.lt_iff_toInt_lt, own_nat (by omega)] at k; have e0 : (0 : Int32).toInt = 0 := rfl; omega) (cap := 12) (by rw [own_tn (by omega)]; omega) (by decide) (by decide) (by decide)
  obtain ⟨b101, g101⟩ : ∃ z, z = h0.size := ⟨_, rfl⟩
  rw [← g101] at A101 st101
  have z102 := E101.1
  have KC103 : Keep h0 h101 [] := KC0.ext E101
  have V101 : Arv Z h101 b101 k101 .byte (Int32.ofNat cs.length) (List.replicate cs.length (Value.int (0 : Int32))) (.int (0 : Int32)) := (Arv.new A101 (fun k => by rw [Int32.lt_iff_toInt_lt, own_nat (by omega)] at k; have e0 : (0 : Int32).toInt = 0 := rfl; omega)).pad (pad_rep [] (.int (0 : Int32)) (cs.length))
  have z104 : @LT.lt Nat _ b101 (Array.size h101) := V101.lt
  have Fc105 := (H3.ext E101)
  obtain ⟨_, _, ⟨T106, L106, k106, n106⟩, -, X106, ⟨Lc106, hQ106, l106, y106, z106⟩, st106⟩ := Jvm.LawKit.callS X101 hx (y := (⟨"java/lang/StringUTF16", "compress", "([CI[BII)I"⟩ : MethodName)) hown (mvT hZ (hw _ (List.mem_of_getElem? (i := 82) rfl))) (mvT hZ (hw _ (List.mem_of_getElem? (i := 83) rfl))) (mvT hZ (hw _ (List.mem_of_getElem? (i := 80) rfl))) (mvT hZ (hw _ (List.mem_of_getElem? (i := 84) rfl))) (by decide) (backOf (W := 0) (rmC5 l Z a0 hw [] o0 b101 kc k101 cs h101 n0 (by omega) Fc105 V101 (by omega : n0 ≤ b101) (hn : cs.length ≤ 12) ((by omega) : @Ne Nat o0 b101)) hZ (hw _ (List.mem_of_getElem? (i := 84) rfl)) (hw _ (List.mem_of_getElem? (i := 80) rfl)) (by decide) (by decide)) (g := (mkF m 9 #[.val (.ref o0), .val (.int (0 : Int32)), .val (.int (Int32.ofNat cs.length)), .val (.ref b101), .unset, .unset] [(.int (Int32.ofNat cs.length)), (.int (0 : Int32)), (.ref b101), (.int (0 : Int32)), (.ref o0)])) rfl (by rw [hml]; rfl) (argsL := [(.ref o0), (.int (0 : Int32)), (.ref b101), (.int (0 : Int32)), (.int (Int32.ofNat cs.length))]) (rest := []) (lenOf pd_3 rfl) rfl (by show 2 * 0 + _ ≤ _; exact Nat.le_of_eq rfl) (hb hby d16_9) (fun _ _ => ⟨rfl, e101, (by decide : 1 + 0 ≤ _), (by decide : 12 + 0 ≤ _)⟩)
  dsimp only [Pt.U, Pt.locs, Pt.cells, Pt.slots] at X106 l106 y106 z106 st106 hQ106
  subst l106 y106 z106
  obtain ⟨j_106, rfl, N106q, K106, P106_0, P106_1⟩ := hQ106
  have N106 := Fr.app N0 N106q
  have z107 := K106.1
  have KC108 : Keep h0 T106.heap [] := KC103.trans K106 (allS (Or.inr (by omega)) all0)
  have z109 : @LT.lt Nat _ b101 (Array.size T106.heap) := P106_0.lt
  obtain ⟨ja, jb, jc⟩ := P106_1
  have pre110 : ∀ t, Steps p.tables e below (T106.setTop (mkF m 17 #[.val (.ref o0), .val (.int (0 : Int32)), .val (.int (Int32.ofNat cs.length)), .val (.ref b101), .val (.int (Int32.ofNat j_106)), .unset] [(.int (Int32.ofNat cs.length)), (.int (Int32.ofNat j_106))])) t → Steps p.tables e below (s₁.setTop (entryFrame m #[(.ref o0), (.int (0 : Int32)), (.int (Int32.ofNat cs.length))] 6)) t := fun t k => by
    refine pre0 _ ?_
    show Steps p.tables e below (s₁.setTop (mkF m 0 #[.val (.ref o0), .val (.int (0 : Int32)), .val (.int (Int32.ofNat cs.length)), .unset, .unset, .unset] [])) _
    refine XS.iloadN X0.here hx rfl (hb hby d16_0) rfl ?_
    show Steps p.tables e below (s₁.setTop (mkF m 1 #[.val (.ref o0), .val (.int (0 : Int32)), .val (.int (Int32.ofNat cs.length)), .unset, .unset, .unset] [(.int (Int32.ofNat cs.length))])) _
    refine st101 _ ?_
    show Steps p.tables e below (T101.setTop (mkF m 3 #[.val (.ref o0), .val (.int (0 : Int32)), .val (.int (Int32.ofNat cs.length)), .unset, .unset, .unset] [(.ref b101)])) _
    refine XS.astoreN X101.here hx rfl (hb hby d16_3) rfl rfl (l' := #[.val (.ref o0), .val (.int (0 : Int32)), .val (.int (Int32.ofNat cs.length)), .val (.ref b101), .unset, .unset]) rfl ?_
    show Steps p.tables e below (T101.setTop (mkF m 4 #[.val (.ref o0), .val (.int (0 : Int32)), .val (.int (Int32.ofNat cs.length)), .val (.ref b101), .unset, .unset] [])) _
    refine XS.aloadN X101.here hx rfl (hb hby d16_4) rfl rfl ?_
    show Steps p.tables e below (T101.setTop (mkF m 5 #[.val (.ref o0), .val (.int (0 : Int32)), .val (.int (Int32.ofNat cs.length)), .val (.ref b101), .unset, .unset] [(.ref o0)])) _
    refine XS.iloadN X101.here hx rfl (hb hby d16_5) rfl ?_
    show Steps p.tables e below (T101.setTop (mkF m 6 #[.val (.ref o0), .val (.int (0 : Int32)), .val (.int (Int32.ofNat cs.length)), .val (.ref b101), .unset, .unset] [(.int (0 : Int32)), (.ref o0)])) _
    refine XS.aloadN X101.here hx rfl (hb hby d16_6) rfl rfl ?_
    show Steps p.tables e below (T101.setTop (mkF m 7 #[.val (.ref o0), .val (.int (0 : Int32)), .val (.int (Int32.ofNat cs.length)), .val (.ref b101), .unset, .unset] [(.ref b101), (.int (0 : Int32)), (.ref o0)])) _
    refine XS.iconst X101.here hx rfl (hb hby d16_7) ?_
    show Steps p.tables e below (T101.setTop (mkF m 8 #[.val (.ref o0), .val (.int (0 : Int32)), .val (.int (Int32.ofNat cs.length)), .val (.ref b101), .unset, .unset] [(.int (0 : Int32)), (.ref b101), (.int (0 : Int32)), (.ref o0)])) _
    refine XS.iloadN X101.here hx rfl (hb hby d16_8) rfl ?_
    show Steps p.tables e below (T101.setTop (mkF m 9 #[.val (.ref o0), .val (.int (0 : Int32)), .val (.int (Int32.ofNat cs.length)), .val (.ref b101), .unset, .unset] [(.int (Int32.ofNat cs.length)), (.int (0 : Int32)), (.ref b101), (.int (0 : Int32)), (.ref o0)])) _
    refine st106 _ ?_
    show Steps p.tables e below (T106.setTop (mkF m 12 #[.val (.ref o0), .val (.int (0 : Int32)), .val (.int (Int32.ofNat cs.length)), .val (.ref b101), .unset, .unset] [(.int (Int32.ofNat j_106))])) _
    refine XS.istore X106.here hx rfl (hb hby d16_12) rfl (l' := #[.val (.ref o0), .val (.int (0 : Int32)), .val (.int (Int32.ofNat cs.length)), .val (.ref b101), .val (.int (Int32.ofNat j_106)), .unset]) rfl ?_
    show Steps p.tables e below (T106.setTop (mkF m 14 #[.val (.ref o0), .val (.int (0 : Int32)), .val (.int (Int32.ofNat cs.length)), .val (.ref b101), .val (.int (Int32.ofNat j_106)), .unset] [])) _
    refine XS.iload X106.here hx rfl (hb hby d16_14) rfl ?_
    show Steps p.tables e below (T106.setTop (mkF m 16 #[.val (.ref o0), .val (.int (0 : Int32)), .val (.int (Int32.ofNat cs.length)), .val (.ref b101), .val (.int (Int32.ofNat j_106)), .unset] [(.int (Int32.ofNat j_106))])) _
    refine XS.iloadN X106.here hx rfl (hb hby d16_16) rfl ?_
    exact k
  by_cases hc111 : (Int32.ofNat j_106) = (Int32.ofNat cs.length)
  · obtain ⟨fs, hr, hrun, hended, hW, hsame⟩ := X106.leave (v := some (.ref b101)) (fun h => by rw [Bd.returns] at h; cases h)
    have ejn : j_106 = cs.length := (own_eqi (by omega) (by omega)).mp hc111
    have Vl := P106_0
    rw [ejn, own_latn] at Vl
    refine ⟨_, _, pre110 _ ?_, hrun, hended, _, _, rfl, ?_, ⟨_, rfl⟩, hW, hsame.mono (by decide) (by decide)⟩
    · show Steps p.tables e below (T106.setTop (mkF m 17 #[.val (.ref o0), .val (.int (0 : Int32)), .val (.int (Int32.ofNat cs.length)), .val (.ref b101), .val (.int (Int32.ofNat j_106)), .unset] [(.int (Int32.ofNat cs.length)), (.int (Int32.ofNat j_106))])) _
      refine XS.icmpYes X106.here hx rfl (pc0 := 17) (pc' := 57) rfl (hb hby d16_17) rfl (teq (hc111 : (Int32.ofNat j_106) = (Int32.ofNat cs.length))).1 (by decide) (by decide) ?_
      show Steps p.tables e below (T106.setTop (mkF m 57 #[.val (.ref o0), .val (.int (0 : Int32)), .val (.int (Int32.ofNat cs.length)), .val (.ref b101), .val (.int (Int32.ofNat j_106)), .unset] [])) _
      refine XS.aloadN X106.here hx rfl (hb hby d16_57) rfl rfl ?_
      show Steps p.tables e below (T106.setTop (mkF m 58 #[.val (.ref o0), .val (.int (0 : Int32)), .val (.int (Int32.ofNat cs.length)), .val (.ref b101), .val (.int (Int32.ofNat j_106)), .unset] [(.ref b101)])) _
      jvm_step X106.here [X106.here.top, hx, (hb hby d16_58), X106.method', Bd.returns, Value.isRef, FieldType.isReference]
      first | (intro acts; rw [hr _ acts rfl rfl rfl]) | rw [hr _ _ rfl rfl rfl]
      exact Steps.refl _
    · show QrmC3 Z o0 kc cs h0 n0 _ T106.heap _
      exact ⟨b101, k101, (0 : Int32), cs.length, (cs.map (fun c => Value.int (lo8 c))), rfl, N106, KC108, Vl, (Or.inl ⟨rfl, rfl, rfl, own_mem (fun i hi => jb i (by omega))⟩), (by first | omega | decide | assumption : h0.size ≤ b101)⟩
  · have jl : j_106 < cs.length := by have q : ¬ (j_106 = cs.length) := fun k => hc111 ((own_eqi (by omega) (by omega)).mpr k); omega
    have Fc112 := (own_staN (H0.ext E101) K106 (allS (own_nV V101) all0))
    have Fc113 := (own_staN (H1.ext E101) K106 (allS (own_nV V101) all0))
    have Fc114 := (own_staN (H2.ext E101) K106 (allS (own_nV V101) all0))
    have Fc115 := (Fc105.keep K106 (ninS ((by omega : @Ne Nat o0 b101)) nin0))
    obtain ⟨_, _, ⟨T116, L116, k116, n116⟩, -, X116, ⟨Lc116, hQ116, l116, y116, z116⟩, st116⟩ := Jvm.LawKit.callS X106 hx (y := (⟨"java/lang/StringUTF16", "toBytes", "([CII)[B"⟩ : MethodName)) hown (mvT hZ (hw _ (List.mem_of_getElem? (i := 88) rfl))) (mvT hZ (hw _ (List.mem_of_getElem? (i := 89) rfl))) (mvT hZ (hw _ (List.mem_of_getElem? (i := 80) rfl))) (mvT hZ (hw _ (List.mem_of_getElem? (i := 90) rfl))) (by decide) (backOf (W := 0) (rmTb l Z a0 hw [] o0 kc cs T106.heap n0 (by omega) Fc112 Fc113 Fc114 Fc115 (hn : cs.length ≤ 12)) hZ (hw _ (List.mem_of_getElem? (i := 90) rfl)) (hw _ (List.mem_of_getElem? (i := 80) rfl)) (by decide) (by decide)) (g := (mkF m 23 #[.val (.ref o0), .val (.int (0 : Int32)), .val (.int (Int32.ofNat cs.length)), .val (.ref b101), .val (.int (Int32.ofNat j_106)), .unset] [(.int (Int32.ofNat cs.length)), (.int (0 : Int32)), (.ref o0)])) rfl (by rw [hml]; rfl) (argsL := [(.ref o0), (.int (0 : Int32)), (.int (Int32.ofNat cs.length))]) (rest := []) (lenOf pd_4 rfl) rfl (by show 2 * 0 + _ ≤ _; exact Nat.le_of_eq rfl) (hb hby d16_23) (fun _ _ => ⟨rfl, rfl, (by decide : 1 + 1 ≤ _), (by decide : 12 + 24 ≤ _)⟩)
    dsimp only [Pt.U, Pt.locs, Pt.cells, Pt.slots] at X116 l116 y116 z116 st116 hQ116
    subst l116 y116 z116
    obtain ⟨r_116, kb_116, rfl, N116q, K116, P116_0, P116_1⟩ := hQ116
    have N116 := Fr.app N106 N116q
    have z117 := K116.1
    have KC118 : Keep h0 T116.heap [] := KC108.trans K116 all0
    have z119 : @LT.lt Nat _ r_116 (Array.size T116.heap) := P116_0.lt
    have z120 : @LE.le Nat _ (Array.size T106.heap) r_116 := P116_1
    have Fc121 := (Fc112.ext (own_ext K116))
    have Fc122 := (Fc113.ext (own_ext K116))
    have Fc123 := (Fc114.ext (own_ext K116))
    obtain ⟨_, _, ⟨T124, L124, k124, n124⟩, -, X124, ⟨Lc124, hQ124, l124, y124, z124⟩, st124⟩ := Jvm.LawKit.callS X116 hx (y := (⟨"java/lang/StringUTF16", "getChar", "([BI)C"⟩ : MethodName)) hown (mvT hZ (hw _ (List.mem_of_getElem? (i := 104) rfl))) (mvT hZ (hw _ (List.mem_of_getElem? (i := 105) rfl))) (mvT hZ (hw _ (List.mem_of_getElem? (i := 80) rfl))) (mvT hZ (hw _ (List.mem_of_getElem? (i := 106) rfl))) (by decide) (backOf (W := 0) (rmGet l Z a0 hw [] r_116 j_106 kb_116 cs T116.heap n0 (by omega) Fc121 Fc122 Fc123 P116_0 (jl : j_106 < cs.length) ((by omega) : cs.length ≤ 1000) ((own_bdg hbd jl) : ¬ ((cs.getD j_106 0) < 0) ∧ ¬ ((65535 : Int32) < (cs.getD j_106 0)))) hZ (hw _ (List.mem_of_getElem? (i := 106) rfl)) (hw _ (List.mem_of_getElem? (i := 80) rfl)) (by decide) (by decide)) (g := (mkF m 32 #[.val (.ref o0), .val (.int (0 : Int32)), .val (.int (Int32.ofNat cs.length)), .val (.ref b101), .val (.int (Int32.ofNat j_106)), .val (.ref r_116)] [(.int (Int32.ofNat j_106)), (.ref r_116)])) rfl (by rw [hml]; rfl) (argsL := [(.ref r_116), (.int (Int32.ofNat j_106))]) (rest := []) (lenOf pd_5 rfl) rfl (by show 2 * 0 + _ ≤ _; exact Nat.le_of_eq rfl) (hb hby d16_32) (fun _ _ => ⟨rfl, rfl, (by decide : 2 + 0 ≤ _), (by decide : 36 + 0 ≤ _)⟩)
    dsimp only [Pt.U, Pt.locs, Pt.cells, Pt.slots] at X124 l124 y124 z124 st124 hQ124
    subst l124 y124 z124
    obtain ⟨rfl, N124q, e124⟩ := hQ124
    have N124 := Fr.app N116 N124q
    obtain ⟨fs, hr, hrun, hended, hW, hsame⟩ := X124.leave (v := some (.ref r_116)) (fun h => by rw [Bd.returns] at h; cases h)
    refine ⟨_, _, pre110 _ ?_, hrun, hended, _, _, rfl, ?_, ⟨_, rfl⟩, hW, hsame.mono (by decide) (by decide)⟩
    · show Steps p.tables e below (T106.setTop (mkF m 17 #[.val (.ref o0), .val (.int (0 : Int32)), .val (.int (Int32.ofNat cs.length)), .val (.ref b101), .val (.int (Int32.ofNat j_106)), .unset] [(.int (Int32.ofNat cs.length)), (.int (Int32.ofNat j_106))])) _
      refine XS.icmpNo X106.here hx rfl (hb hby d16_17) rfl (feq (hc111 : ¬ ((Int32.ofNat j_106) = (Int32.ofNat cs.length)))).1 ?_
      show Steps p.tables e below (T106.setTop (mkF m 20 #[.val (.ref o0), .val (.int (0 : Int32)), .val (.int (Int32.ofNat cs.length)), .val (.ref b101), .val (.int (Int32.ofNat j_106)), .unset] [])) _
      refine XS.aloadN X106.here hx rfl (hb hby d16_20) rfl rfl ?_
      show Steps p.tables e below (T106.setTop (mkF m 21 #[.val (.ref o0), .val (.int (0 : Int32)), .val (.int (Int32.ofNat cs.length)), .val (.ref b101), .val (.int (Int32.ofNat j_106)), .unset] [(.ref o0)])) _
      refine XS.iloadN X106.here hx rfl (hb hby d16_21) rfl ?_
      show Steps p.tables e below (T106.setTop (mkF m 22 #[.val (.ref o0), .val (.int (0 : Int32)), .val (.int (Int32.ofNat cs.length)), .val (.ref b101), .val (.int (Int32.ofNat j_106)), .unset] [(.int (0 : Int32)), (.ref o0)])) _
      refine XS.iloadN X106.here hx rfl (hb hby d16_22) rfl ?_
      show Steps p.tables e below (T106.setTop (mkF m 23 #[.val (.ref o0), .val (.int (0 : Int32)), .val (.int (Int32.ofNat cs.length)), .val (.ref b101), .val (.int (Int32.ofNat j_106)), .unset] [(.int (Int32.ofNat cs.length)), (.int (0 : Int32)), (.ref o0)])) _
      refine st116 _ ?_
      show Steps p.tables e below (T116.setTop (mkF m 26 #[.val (.ref o0), .val (.int (0 : Int32)), .val (.int (Int32.ofNat cs.length)), .val (.ref b101), .val (.int (Int32.ofNat j_106)), .unset] [(.ref r_116)])) _
      refine XS.astore X116.here hx rfl (hb hby d16_26) rfl rfl (l' := #[.val (.ref o0), .val (.int (0 : Int32)), .val (.int (Int32.ofNat cs.length)), .val (.ref b101), .val (.int (Int32.ofNat j_106)), .val (.ref r_116)]) rfl ?_
      show Steps p.tables e below (T116.setTop (mkF m 28 #[.val (.ref o0), .val (.int (0 : Int32)), .val (.int (Int32.ofNat cs.length)), .val (.ref b101), .val (.int (Int32.ofNat j_106)), .val (.ref r_116)] [])) _
      refine XS.aload X116.here hx rfl (hb hby d16_28) rfl rfl ?_
      show Steps p.tables e below (T116.setTop (mkF m 30 #[.val (.ref o0), .val (.int (0 : Int32)), .val (.int (Int32.ofNat cs.length)), .val (.ref b101), .val (.int (Int32.ofNat j_106)), .val (.ref r_116)] [(.ref r_116)])) _
      refine XS.iload X116.here hx rfl (hb hby d16_30) rfl ?_
      show Steps p.tables e below (T116.setTop (mkF m 32 #[.val (.ref o0), .val (.int (0 : Int32)), .val (.int (Int32.ofNat cs.length)), .val (.ref b101), .val (.int (Int32.ofNat j_106)), .val (.ref r_116)] [(.int (Int32.ofNat j_106)), (.ref r_116)])) _
      refine st124 _ ?_
      show Steps p.tables e below (T124.setTop (mkF m 35 #[.val (.ref o0), .val (.int (0 : Int32)), .val (.int (Int32.ofNat cs.length)), .val (.ref b101), .val (.int (Int32.ofNat j_106)), .val (.ref r_116)] [(.int (cs.getD j_106 0))])) _
      refine XS.sipush X124.here hx rfl (hb hby d16_35) ?_
      show Steps p.tables e below (T124.setTop (mkF m 38 #[.val (.ref o0), .val (.int (0 : Int32)), .val (.int (Int32.ofNat cs.length)), .val (.ref b101), .val (.int (Int32.ofNat j_106)), .val (.ref r_116)] [(.int (255 : Int32)), (.int (cs.getD j_106 0))])) _
      refine XS.icmpYes X124.here hx rfl (pc0 := 38) (pc' := 54) rfl (hb hby d16_38) rfl (tlt ((jc jl) : (255 : Int32) < (cs.getD j_106 0))).2.2.1 (by decide) (by decide) ?_
      show Steps p.tables e below (T124.setTop (mkF m 54 #[.val (.ref o0), .val (.int (0 : Int32)), .val (.int (Int32.ofNat cs.length)), .val (.ref b101), .val (.int (Int32.ofNat j_106)), .val (.ref r_116)] [])) _
      refine XS.aload X124.here hx rfl (hb hby d16_54) rfl rfl ?_
      show Steps p.tables e below (T124.setTop (mkF m 56 #[.val (.ref o0), .val (.int (0 : Int32)), .val (.int (Int32.ofNat cs.length)), .val (.ref b101), .val (.int (Int32.ofNat j_106)), .val (.ref r_116)] [(.ref r_116)])) _
      jvm_step X124.here [X124.here.top, hx, (hb hby d16_56), X124.method', Bd.returns, Value.isRef, FieldType.isReference]
      first | (intro acts; rw [hr _ acts rfl rfl rfl]) | rw [hr _ _ rfl rfl rfl]
      exact Steps.refl _
    · show QrmC3 Z o0 kc cs h0 n0 _ T124.heap _
      rw [e124]
      exact ⟨r_116, kb_116, (1 : Int32), (2 * cs.length), (wideBytes cs), rfl, N124, KC118, P116_0, (Or.inr ⟨rfl, rfl, rfl, by omega⟩), (by first | omega | decide | assumption : h0.size ≤ r_116)⟩
theorem d18_0 : decode jdk_52_method_15_code 0 = .ok (.iload_n 1, 1) := by decide +kernel
theorem d18_1 : decode jdk_52_method_15_code 1 = .ok (.aload_n 0, 1) := by decide +kernel
theorem d18_2 : decode jdk_52_method_15_code 2 = .ok (.arraylength, 1) := by decide +kernel
theorem d18_3 : decode jdk_52_method_15_code 3 = .ok (.isub, 1) := by decide +kernel
theorem d18_4 : decode jdk_52_method_15_code 4 = .ok (.bipush 31, 2) := by decide +kernel
theorem d18_6 : decode jdk_52_method_15_code 6 = .ok (.iushr, 1) := by decide +kernel
theorem d18_7 : decode jdk_52_method_15_code 7 = .ok (.i2b, 1) := by decide +kernel
theorem d18_8 : decode jdk_52_method_15_code 8 = .ok (.ireturn, 1) := by decide +kernel
theorem ef_rmCfl (m : MethodId) (o0 : Addr) (cs : List Int32) : entryFrame m #[(.ref o0), (.int (Int32.ofNat cs.length))] 2 = mkF m 0 #[.val (.ref o0), .val (.int (Int32.ofNat cs.length))] [] := by first | (simp [entryFrame, mkF, argsToLocals, Value.category]; done) | rfl
def QrmCfl (Z : State) (o0 : Addr) (cs : List Int32) (kb : ClassId) (z : Int32) (M : Nat) (bs : List Value) (h0 : Heap) (n0 : Nat) (v : Option Value) (h : Heap) (L : List Loc) : Prop := v = some (.int z) ∧ Fr n0 L ∧ h = h0
set_option maxRecDepth 65536 in
set_option maxHeartbeats 40000000 in
theorem rmCfl (l : Launch) (Z : State) (a0 : Array Value) (hw : ∀ d ∈ tables_1, d.before a0 Z = true) (ws : List Jvm.Cond) (o0 : Addr) (cs : List Int32) (kb : ClassId) (z : Int32) (M : Nat) (bs : List Value) (h0 : Heap) (n0 : Nat) (Z0 : n0 ≤ h0.size) (H0 : Arv Z h0 o0 kb .byte (Int32.ofNat M) bs (.int (0 : Int32))) (cd : own_cod cs z M bs) (hn : cs.length ≤ 12) :
    MetFree l (⟨"java/lang/StringUTF16", "coderFromArrayLen", "([BI)B"⟩ : MethodName) (head1 (Jvm.Cond.code (⟨"java/lang/StringUTF16", "coderFromArrayLen", "([BI)B"⟩ : MethodName) jdk_52_method_15_code 2 (some .byte) :: ws) ({ frames := 0, cells := 0, slots := 0, locals := 0 } : Room)) (fun a U => a = #[(.ref o0), (.int (Int32.ofNat cs.length))] ∧ Z.Warmed39 U.vm ∧ U.heap = h0) (fun _ _ _ _ _ => True) (fun _ U o U' => ∃ v L, o = .returned v ∧ QrmCfl Z o0 cs kb z M bs h0 n0 v U'.heap L ∧ FrameEnd U o U' L ({ frames := 0, cells := 0, slots := 0, locals := 0 } : Room).cells ({ frames := 0, cells := 0, slots := 0, locals := 0 } : Room).slots) := by
  refine MetFree.of_bodySF (plainFor_of_name pn_22) hisR ?_
  intro p e s m args below meth c s₁ Bd hml0 hP hK
  obtain ⟨rfl, hZ, hh⟩ := hP
  have hx := Bd.exec
  have hby := Bd.bytes
  have hml : c.maxLocals = 2 := hml0
  have hown : s.vm.findClass "java/lang/StringUTF16" = some m.cls := findClass_of_methodNamed Bd.named
  have hnm := (name_of_methodNamed Bd.named Bd.method).1
  have X0 : Stand p l e ({ frames := 0, cells := 0, slots := 0, locals := 0 } : Room) s m #[(.ref o0), (.int (Int32.ofNat cs.length))] below meth c s₁ [] 0 0 := Stand.of_body Bd
  have e0 : s₁.heap = h0 := by rw [← hh, Bd.state]; rfl
  have N0 := Fr.nil n0
  have pre0 : ∀ t, Steps p.tables e below (s₁.setTop (mkF m 0 #[.val (.ref o0), .val (.int (Int32.ofNat cs.length))] [])) t → Steps p.tables e below (s₁.setTop (entryFrame m #[(.ref o0), (.int (Int32.ofNat cs.length))] 2)) t := fun t k => castTop (ef_rmCfl m o0 cs) k
  have z125 : @LT.lt Nat _ o0 (Array.size h0) := H0.lt
  have KC0 : Keep h0 h0 [] := Keep.refl _ _
  obtain ⟨cl126, Ar126, q126, S126, N126', H126, G126⟩ := id H0
  obtain ⟨fs, hr, hrun, hended, hW, hsame⟩ := X0.leave (v := some (.int (nar .byte (((((Int32.ofNat cs.length) - (Int32.ofNat M)).toUInt32 >>> ((31 : Int32) &&& 31).toUInt32).toInt32).toInt8.toInt32)))) (fun h => by rw [Bd.returns] at h; cases h)
  refine ⟨_, _, pre0 _ ?_, hrun, hended, _, _, rfl, ?_, ⟨_, rfl⟩, hW, hsame.mono (by decide) (by decide)⟩
  · show Steps p.tables e below (s₁.setTop (mkF m 0 #[.val (.ref o0), .val (.int (Int32.ofNat cs.length))] [])) _
    refine XS.iloadN X0.here hx rfl (hb hby d18_0) rfl ?_
    show Steps p.tables e below (s₁.setTop (mkF m 1 #[.val (.ref o0), .val (.int (Int32.ofNat cs.length))] [(.int (Int32.ofNat cs.length))])) _
    refine XS.aloadN X0.here hx rfl (hb hby d18_1) rfl rfl ?_
    show Steps p.tables e below (s₁.setTop (mkF m 2 #[.val (.ref o0), .val (.int (Int32.ofNat cs.length))] [(.ref o0), (.int (Int32.ofNat cs.length))])) _
    refine X0.arraylength hx (by rw [e0]; exact Ar126.1) (State.isArrayOf_alike hZ.alike Ar126.2.1) (g := (mkF m 2 #[.val (.ref o0), .val (.int (Int32.ofNat cs.length))] [(.ref o0), (.int (Int32.ofNat cs.length))])) rfl rfl (hb hby d18_2) _ ?_
    rw [len_of S126 N126']
    show Steps p.tables e below (s₁.setTop (mkF m 3 #[.val (.ref o0), .val (.int (Int32.ofNat cs.length))] [(.int (Int32.ofNat M)), (.int (Int32.ofNat cs.length))])) _
    refine XS.isub X0.here hx rfl (hb hby d18_3) rfl ?_
    show Steps p.tables e below (s₁.setTop (mkF m 4 #[.val (.ref o0), .val (.int (Int32.ofNat cs.length))] [(.int ((Int32.ofNat cs.length) - (Int32.ofNat M)))])) _
    refine XS.bipush X0.here hx rfl (hb hby d18_4) ?_
    show Steps p.tables e below (s₁.setTop (mkF m 6 #[.val (.ref o0), .val (.int (Int32.ofNat cs.length))] [(.int (31 : Int32)), (.int ((Int32.ofNat cs.length) - (Int32.ofNat M)))])) _
    refine XS.iushr X0.here hx rfl (hb hby d18_6) rfl ?_
    show Steps p.tables e below (s₁.setTop (mkF m 7 #[.val (.ref o0), .val (.int (Int32.ofNat cs.length))] [(.int ((((Int32.ofNat cs.length) - (Int32.ofNat M)).toUInt32 >>> ((31 : Int32) &&& 31).toUInt32).toInt32))])) _
    refine XS.i2b X0.here hx rfl (hb hby d18_7) rfl ?_
    show Steps p.tables e below (s₁.setTop (mkF m 8 #[.val (.ref o0), .val (.int (Int32.ofNat cs.length))] [(.int (((((Int32.ofNat cs.length) - (Int32.ofNat M)).toUInt32 >>> ((31 : Int32) &&& 31).toUInt32).toInt32).toInt8.toInt32))])) _
    exact retN X0 hx (t := .byte) Bd.returns (by simp) (hb hby d18_8) hr
  · show QrmCfl Z o0 cs kb z M bs h0 n0 _ s₁.heap _
    rw [e0]
    exact ⟨(congrArg (fun x => some (Value.int x)) (own_cfl cd hn)), N0, rfl⟩
theorem d5_0 : decode jdk_42_method_55_code 0 = .ok (.aload_n 0, 1) := by decide +kernel
theorem d5_1 : decode jdk_42_method_55_code 1 = .ok (.getfield 9, 3) := by decide +kernel
theorem d5_4 : decode jdk_42_method_55_code 4 = .ok (.arraylength, 1) := by decide +kernel
theorem d5_5 : decode jdk_42_method_55_code 5 = .ok (.ifCond .ne 7, 3) := by decide +kernel
theorem d5_8 : decode jdk_42_method_55_code 8 = .ok (.iconst 1, 1) := by decide +kernel
theorem d5_9 : decode jdk_42_method_55_code 9 = .ok (.goto 4, 3) := by decide +kernel
theorem d5_13 : decode jdk_42_method_55_code 13 = .ok (.ireturn, 1) := by decide +kernel
theorem d5_12 : decode jdk_42_method_55_code 12 = .ok (.iconst 0, 1) := by decide +kernel
theorem pn_5 : plainName "java/lang/String" = true := by first | (simp [plainName, overriddenIn]; done) | decide +kernel
theorem ef_rmEmp (m : MethodId) (o0 : Addr) : entryFrame m #[(.ref o0)] 1 = mkF m 0 #[.val (.ref o0)] [] := by first | (simp [entryFrame, mkF, argsToLocals, Value.category]; done) | rfl
def QrmEmp (Z : State) (o0 : Addr) (cs : List Int32) (bv : Addr) (kb : ClassId) (z : Int32) (M : Nat) (bs : List Value) (h0 : Heap) (n0 : Nat) (v : Option Value) (h : Heap) (L : List Loc) : Prop := v = some (.int (bi (cs = []))) ∧ Fr n0 L ∧ h = h0
set_option maxRecDepth 65536 in
set_option maxHeartbeats 40000000 in
theorem rmEmp (l : Launch) (Z : State) (a0 : Array Value) (hw : ∀ d ∈ tables_1, d.before a0 Z = true) (ws : List Jvm.Cond) (o0 : Addr) (cs : List Int32) (bv : Addr) (kb : ClassId) (z : Int32) (M : Nat) (bs : List Value) (h0 : Heap) (n0 : Nat) (Z0 : n0 ≤ h0.size) (H0 : Exa Z h0 o0 "java/lang/String") (H1 : Fld Z h0 o0 "java/lang/String" "value" "[B" (.ref bv)) (H2 : Fld Z h0 o0 "java/lang/String" "coder" "B" (.int z)) (H3 : Arv Z h0 bv kb .byte (Int32.ofNat M) bs (.int (0 : Int32))) (cd : own_cod cs z M bs) (hn : cs.length ≤ 1000) (hbd : own_bd cs) :
    MetFree l (⟨"java/lang/String", "isEmpty", "()Z"⟩ : MethodName) (head1 (Jvm.Cond.code (⟨"java/lang/String", "isEmpty", "()Z"⟩ : MethodName) jdk_42_method_55_code 1 (some .boolean) :: ws) ({ frames := 0, cells := 0, slots := 0, locals := 0 } : Room)) (fun a U => a = #[(.ref o0)] ∧ Z.Warmed39 U.vm ∧ U.heap = h0) (fun _ _ _ _ _ => True) (fun _ U o U' => ∃ v L, o = .returned v ∧ QrmEmp Z o0 cs bv kb z M bs h0 n0 v U'.heap L ∧ FrameEnd U o U' L ({ frames := 0, cells := 0, slots := 0, locals := 0 } : Room).cells ({ frames := 0, cells := 0, slots := 0, locals := 0 } : Room).slots) := by
  refine MetFree.of_bodySF (plainFor_of_name pn_5) hisR ?_
  intro p e s m args below meth c s₁ Bd hml0 hP hK
  obtain ⟨rfl, hZ, hh⟩ := hP
  have hx := Bd.exec
  have hby := Bd.bytes
  have hml : c.maxLocals = 1 := hml0
  have hown : s.vm.findClass "java/lang/String" = some m.cls := findClass_of_methodNamed Bd.named
  have hnm := (name_of_methodNamed Bd.named Bd.method).1
  have X0 : Stand p l e ({ frames := 0, cells := 0, slots := 0, locals := 0 } : Room) s m #[(.ref o0)] below meth c s₁ [] 0 0 := Stand.of_body Bd
  have e0 : s₁.heap = h0 := by rw [← hh, Bd.state]; rfl
  have N0 := Fr.nil n0
  have pre0 : ∀ t, Steps p.tables e below (s₁.setTop (mkF m 0 #[.val (.ref o0)] [])) t → Steps p.tables e below (s₁.setTop (entryFrame m #[(.ref o0)] 1)) t := fun t k => castTop (ef_rmEmp m o0) k
  have z127 : @LT.lt Nat _ o0 (Array.size h0) := H0.lt
  have z128 : @LT.lt Nat _ o0 (Array.size h0) := H1.lt
  have z129 : @LT.lt Nat _ o0 (Array.size h0) := H2.lt
  have z130 : @LT.lt Nat _ bv (Array.size h0) := H3.lt
  have KC0 : Keep h0 h0 [] := Keep.refl _ _
  obtain ⟨T131, X131, e131, st131⟩ := getF X0 hx hZ hown (host := "") (Or.inl (hw _ (List.mem_of_getElem? (i := 21) rfl))) Via.refl e0 H1 (g := (mkF m 1 #[.val (.ref o0)] [(.ref o0)])) rfl rfl (hb hby d5_1)
  obtain ⟨cl132, Ar132, q132, S132, N132', H132, G132⟩ := id H3
  have pre133 : ∀ t, Steps p.tables e below (T131.setTop (mkF m 5 #[.val (.ref o0)] [(.int (Int32.ofNat M))])) t → Steps p.tables e below (s₁.setTop (entryFrame m #[(.ref o0)] 1)) t := fun t k => by
    refine pre0 _ ?_
    show Steps p.tables e below (s₁.setTop (mkF m 0 #[.val (.ref o0)] [])) _
    refine XS.aloadN X0.here hx rfl (hb hby d5_0) rfl rfl ?_
    show Steps p.tables e below (s₁.setTop (mkF m 1 #[.val (.ref o0)] [(.ref o0)])) _
    refine st131 _ ?_
    show Steps p.tables e below (T131.setTop (mkF m 4 #[.val (.ref o0)] [(.ref bv)])) _
    refine X131.arraylength hx (by rw [e131]; exact Ar132.1) (State.isArrayOf_alike hZ.alike Ar132.2.1) (g := (mkF m 4 #[.val (.ref o0)] [(.ref bv)])) rfl rfl (hb hby d5_4) _ ?_
    rw [len_of S132 N132']
    exact k
  by_cases hc134 : (Int32.ofNat M) = (0 : Int32)
  · obtain ⟨fs, hr, hrun, hended, hW, hsame⟩ := X131.leave (v := some (.int (1 : Int32))) (fun h => by rw [Bd.returns] at h; cases h)
    refine ⟨_, _, pre133 _ ?_, hrun, hended, _, _, rfl, ?_, ⟨_, rfl⟩, hW, hsame.mono (by decide) (by decide)⟩
    · show Steps p.tables e below (T131.setTop (mkF m 5 #[.val (.ref o0)] [(.int (Int32.ofNat M))])) _
      refine XS.ifNo X131.here hx rfl (hb hby d5_5) rfl ((if0 _ _).trans (teq (hc134 : (Int32.ofNat M) = (0 : Int32))).2) ?_
      show Steps p.tables e below (T131.setTop (mkF m 8 #[.val (.ref o0)] [])) _
      refine XS.iconst X131.here hx rfl (hb hby d5_8) ?_
      show Steps p.tables e below (T131.setTop (mkF m 9 #[.val (.ref o0)] [(.int (1 : Int32))])) _
      refine XS.goto X131.here hx rfl (pc0 := 9) (pc' := 13) rfl (hb hby d5_9) (by decide) (by decide) ?_
      show Steps p.tables e below (T131.setTop (mkF m 13 #[.val (.ref o0)] [(.int (1 : Int32))])) _
      exact retN X131 hx (t := .boolean) Bd.returns (by simp) (hb hby d5_13) hr
    · show QrmEmp Z o0 cs bv kb z M bs h0 n0 _ T131.heap _
      rw [e131]
      exact ⟨(congrArg (fun x => some (Value.int x)) (bi_t ((own_emp cd hn).mp hc134)).symm), N0, rfl⟩
  · obtain ⟨fs, hr, hrun, hended, hW, hsame⟩ := X131.leave (v := some (.int (0 : Int32))) (fun h => by rw [Bd.returns] at h; cases h)
    refine ⟨_, _, pre133 _ ?_, hrun, hended, _, _, rfl, ?_, ⟨_, rfl⟩, hW, hsame.mono (by decide) (by decide)⟩
    · show Steps p.tables e below (T131.setTop (mkF m 5 #[.val (.ref o0)] [(.int (Int32.ofNat M))])) _
      refine XS.ifYes X131.here hx rfl (pc0 := 5) (pc' := 12) rfl (hb hby d5_5) rfl ((if0 _ _).trans (feq (hc134 : ¬ ((Int32.ofNat M) = (0 : Int32)))).2) (by decide) (by decide) ?_
      show Steps p.tables e below (T131.setTop (mkF m 12 #[.val (.ref o0)] [])) _
      refine XS.iconst X131.here hx rfl (hb hby d5_12) ?_
      show Steps p.tables e below (T131.setTop (mkF m 13 #[.val (.ref o0)] [(.int (0 : Int32))])) _
      exact retN X131 hx (t := .boolean) Bd.returns (by simp) (hb hby d5_13) hr
    · show QrmEmp Z o0 cs bv kb z M bs h0 n0 _ T131.heap _
      rw [e131]
      exact ⟨(congrArg (fun x => some (Value.int x)) (bi_f (fun k => hc134 ((own_emp cd hn).mpr k))).symm), N0, rfl⟩
theorem d7_0 : decode jdk_42_method_152_code 0 = .ok (.getstatic 38, 3) := by decide +kernel
theorem d7_3 : decode jdk_42_method_152_code 3 = .ok (.ifCond .eq 10, 3) := by decide +kernel
theorem d7_6 : decode jdk_42_method_152_code 6 = .ok (.aload_n 0, 1) := by decide +kernel
theorem d7_7 : decode jdk_42_method_152_code 7 = .ok (.getfield 15, 3) := by decide +kernel
theorem d7_10 : decode jdk_42_method_152_code 10 = .ok (.goto 4, 3) := by decide +kernel
theorem d7_14 : decode jdk_42_method_152_code 14 = .ok (.ireturn, 1) := by decide +kernel
theorem ef_rmCod (m : MethodId) (o0 : Addr) : entryFrame m #[(.ref o0)] 1 = mkF m 0 #[.val (.ref o0)] [] := by first | (simp [entryFrame, mkF, argsToLocals, Value.category]; done) | rfl
def QrmCod (Z : State) (o0 : Addr) (G1 : Int32) (cs : List Int32) (bv : Addr) (kb : ClassId) (z : Int32) (M : Nat) (bs : List Value) (h0 : Heap) (n0 : Nat) (v : Option Value) (h : Heap) (L : List Loc) : Prop := v = some (.int z) ∧ Fr n0 L ∧ h = h0
set_option maxRecDepth 65536 in
set_option maxHeartbeats 40000000 in
theorem rmCod (l : Launch) (Z : State) (a0 : Array Value) (hw : ∀ d ∈ tables_1, d.before a0 Z = true) (ws : List Jvm.Cond) (o0 : Addr) (G1 : Int32) (cs : List Int32) (bv : Addr) (kb : ClassId) (z : Int32) (M : Nat) (bs : List Value) (h0 : Heap) (n0 : Nat) (Z0 : n0 ≤ h0.size) (H0 : Sta Z h0 "java/lang/String" "COMPACT_STRINGS" "Z" (.int G1)) (hG1 : ¬ (G1 = (0 : Int32))) (H2 : Exa Z h0 o0 "java/lang/String") (H3 : Fld Z h0 o0 "java/lang/String" "value" "[B" (.ref bv)) (H4 : Fld Z h0 o0 "java/lang/String" "coder" "B" (.int z)) (H5 : Arv Z h0 bv kb .byte (Int32.ofNat M) bs (.int (0 : Int32))) (cd : own_cod cs z M bs) (hn : cs.length ≤ 1000) (hbd : own_bd cs) :
    MetFree l (⟨"java/lang/String", "coder", "()B"⟩ : MethodName) (head1 (Jvm.Cond.code (⟨"java/lang/String", "coder", "()B"⟩ : MethodName) jdk_42_method_152_code 1 (some .byte) :: ws) ({ frames := 0, cells := 0, slots := 0, locals := 0 } : Room)) (fun a U => a = #[(.ref o0)] ∧ Z.Warmed39 U.vm ∧ U.heap = h0) (fun _ _ _ _ _ => True) (fun _ U o U' => ∃ v L, o = .returned v ∧ QrmCod Z o0 G1 cs bv kb z M bs h0 n0 v U'.heap L ∧ FrameEnd U o U' L ({ frames := 0, cells := 0, slots := 0, locals := 0 } : Room).cells ({ frames := 0, cells := 0, slots := 0, locals := 0 } : Room).slots) := by
  refine MetFree.of_bodySF (plainFor_of_name pn_5) hisR ?_
  intro p e s m args below meth c s₁ Bd hml0 hP hK
  obtain ⟨rfl, hZ, hh⟩ := hP
  have hx := Bd.exec
  have hby := Bd.bytes
  have hml : c.maxLocals = 1 := hml0
  have hown : s.vm.findClass "java/lang/String" = some m.cls := findClass_of_methodNamed Bd.named
  have hnm := (name_of_methodNamed Bd.named Bd.method).1
  have X0 : Stand p l e ({ frames := 0, cells := 0, slots := 0, locals := 0 } : Room) s m #[(.ref o0)] below meth c s₁ [] 0 0 := Stand.of_body Bd
  have e0 : s₁.heap = h0 := by rw [← hh, Bd.state]; rfl
  have N0 := Fr.nil n0
  have pre0 : ∀ t, Steps p.tables e below (s₁.setTop (mkF m 0 #[.val (.ref o0)] [])) t → Steps p.tables e below (s₁.setTop (entryFrame m #[(.ref o0)] 1)) t := fun t k => castTop (ef_rmCod m o0) k
  have z135 : @LT.lt Nat _ o0 (Array.size h0) := H2.lt
  have z136 : @LT.lt Nat _ o0 (Array.size h0) := H3.lt
  have z137 : @LT.lt Nat _ o0 (Array.size h0) := H4.lt
  have z138 : @LT.lt Nat _ bv (Array.size h0) := H5.lt
  have KC0 : Keep h0 h0 [] := Keep.refl _ _
  obtain ⟨T139, X139, e139, st139⟩ := getS2 X0 hx hZ hown (host := "") (Or.inl (hw _ (List.mem_of_getElem? (i := 43) rfl))) Via.refl e0 H0 (g := (mkF m 0 #[.val (.ref o0)] [])) rfl (hb hby d7_0)
  obtain ⟨T140, X140, e140, st140⟩ := getF X139 hx hZ hown (host := "") (Or.inl (hw _ (List.mem_of_getElem? (i := 22) rfl))) Via.refl e139 H4 (g := (mkF m 7 #[.val (.ref o0)] [(.ref o0)])) rfl rfl (hb hby d7_7)
  obtain ⟨fs, hr, hrun, hended, hW, hsame⟩ := X140.leave (v := some (.int (nar .byte z))) (fun h => by rw [Bd.returns] at h; cases h)
  refine ⟨_, _, pre0 _ ?_, hrun, hended, _, _, rfl, ?_, ⟨_, rfl⟩, hW, hsame.mono (by decide) (by decide)⟩
  · show Steps p.tables e below (s₁.setTop (mkF m 0 #[.val (.ref o0)] [])) _
    refine st139 _ ?_
    show Steps p.tables e below (T139.setTop (mkF m 3 #[.val (.ref o0)] [(.int G1)])) _
    refine XS.ifNo X139.here hx rfl (hb hby d7_3) rfl ((if0 _ _).trans (feq (hG1 : ¬ (G1 = (0 : Int32)))).1) ?_
    show Steps p.tables e below (T139.setTop (mkF m 6 #[.val (.ref o0)] [])) _
    refine XS.aloadN X139.here hx rfl (hb hby d7_6) rfl rfl ?_
    show Steps p.tables e below (T139.setTop (mkF m 7 #[.val (.ref o0)] [(.ref o0)])) _
    refine st140 _ ?_
    show Steps p.tables e below (T140.setTop (mkF m 10 #[.val (.ref o0)] [(.int z)])) _
    refine XS.goto X140.here hx rfl (pc0 := 10) (pc' := 14) rfl (hb hby d7_10) (by decide) (by decide) ?_
    show Steps p.tables e below (T140.setTop (mkF m 14 #[.val (.ref o0)] [(.int z)])) _
    exact retN X140 hx (t := .byte) Bd.returns (by simp) (hb hby d7_14) hr
  · show QrmCod Z o0 G1 cs bv kb z M bs h0 n0 _ T140.heap _
    rw [e140]
    exact ⟨(congrArg (fun x => some (Value.int x)) (own_cz cd)), N0, rfl⟩
theorem d6_0 : decode jdk_42_method_54_code 0 = .ok (.aload_n 0, 1) := by decide +kernel
theorem d6_1 : decode jdk_42_method_54_code 1 = .ok (.getfield 9, 3) := by decide +kernel
theorem d6_4 : decode jdk_42_method_54_code 4 = .ok (.arraylength, 1) := by decide +kernel
theorem d6_5 : decode jdk_42_method_54_code 5 = .ok (.aload_n 0, 1) := by decide +kernel
theorem d6_6 : decode jdk_42_method_54_code 6 = .ok (.invokevirtual 335, 3) := by decide +kernel
theorem pd_6 : parseMethodDescriptor "()B" = some ⟨[], some .byte⟩ := by decide +kernel
theorem d6_9 : decode jdk_42_method_54_code 9 = .ok (.ishr, 1) := by decide +kernel
theorem d6_10 : decode jdk_42_method_54_code 10 = .ok (.ireturn, 1) := by decide +kernel
theorem ef_rmLen (m : MethodId) (o0 : Addr) : entryFrame m #[(.ref o0)] 1 = mkF m 0 #[.val (.ref o0)] [] := by first | (simp [entryFrame, mkF, argsToLocals, Value.category]; done) | rfl
def QrmLen (Z : State) (o0 : Addr) (G1 : Int32) (cs : List Int32) (bv : Addr) (kb : ClassId) (z : Int32) (M : Nat) (bs : List Value) (h0 : Heap) (n0 : Nat) (v : Option Value) (h : Heap) (L : List Loc) : Prop := v = some (.int (Int32.ofNat cs.length)) ∧ Fr n0 L ∧ h = h0
set_option maxRecDepth 65536 in
set_option maxHeartbeats 40000000 in
theorem rmLen (l : Launch) (Z : State) (a0 : Array Value) (hw : ∀ d ∈ tables_1, d.before a0 Z = true) (ws : List Jvm.Cond) (o0 : Addr) (G1 : Int32) (cs : List Int32) (bv : Addr) (kb : ClassId) (z : Int32) (M : Nat) (bs : List Value) (h0 : Heap) (n0 : Nat) (Z0 : n0 ≤ h0.size) (H0 : Sta Z h0 "java/lang/String" "COMPACT_STRINGS" "Z" (.int G1)) (hG1 : ¬ (G1 = (0 : Int32))) (H2 : Exa Z h0 o0 "java/lang/String") (H3 : Fld Z h0 o0 "java/lang/String" "value" "[B" (.ref bv)) (H4 : Fld Z h0 o0 "java/lang/String" "coder" "B" (.int z)) (H5 : Arv Z h0 bv kb .byte (Int32.ofNat M) bs (.int (0 : Int32))) (cd : own_cod cs z M bs) (hn : cs.length ≤ 1000) (hbd : own_bd cs) :
    MetFree l (⟨"java/lang/String", "length", "()I"⟩ : MethodName) (head1 (Jvm.Cond.code (⟨"java/lang/String", "length", "()I"⟩ : MethodName) jdk_42_method_54_code 1 (some .int) :: ws) ({ frames := 1, cells := 0, slots := 0, locals := 13 } : Room)) (fun a U => a = #[(.ref o0)] ∧ Z.Warmed39 U.vm ∧ U.heap = h0) (fun _ _ _ _ _ => True) (fun _ U o U' => ∃ v L, o = .returned v ∧ QrmLen Z o0 G1 cs bv kb z M bs h0 n0 v U'.heap L ∧ FrameEnd U o U' L ({ frames := 1, cells := 0, slots := 0, locals := 13 } : Room).cells ({ frames := 1, cells := 0, slots := 0, locals := 13 } : Room).slots) := by
  refine MetFree.of_bodySF (plainFor_of_name pn_5) hisR ?_
  intro p e s m args below meth c s₁ Bd hml0 hP hK
  obtain ⟨rfl, hZ, hh⟩ := hP
  have hx := Bd.exec
  have hby := Bd.bytes
  have hml : c.maxLocals = 1 := hml0
  have hown : s.vm.findClass "java/lang/String" = some m.cls := findClass_of_methodNamed Bd.named
  have hnm := (name_of_methodNamed Bd.named Bd.method).1
  have X0 : Stand p l e ({ frames := 1, cells := 0, slots := 0, locals := 13 } : Room) s m #[(.ref o0)] below meth c s₁ [] 0 0 := Stand.of_body Bd
  have e0 : s₁.heap = h0 := by rw [← hh, Bd.state]; rfl
  have N0 := Fr.nil n0
  have pre0 : ∀ t, Steps p.tables e below (s₁.setTop (mkF m 0 #[.val (.ref o0)] [])) t → Steps p.tables e below (s₁.setTop (entryFrame m #[(.ref o0)] 1)) t := fun t k => castTop (ef_rmLen m o0) k
  have z141 : @LT.lt Nat _ o0 (Array.size h0) := H2.lt
  have z142 : @LT.lt Nat _ o0 (Array.size h0) := H3.lt
  have z143 : @LT.lt Nat _ o0 (Array.size h0) := H4.lt
  have z144 : @LT.lt Nat _ bv (Array.size h0) := H5.lt
  have KC0 : Keep h0 h0 [] := Keep.refl _ _
  obtain ⟨T145, X145, e145, st145⟩ := getF X0 hx hZ hown (host := "") (Or.inl (hw _ (List.mem_of_getElem? (i := 21) rfl))) Via.refl e0 H3 (g := (mkF m 1 #[.val (.ref o0)] [(.ref o0)])) rfl rfl (hb hby d6_1)
  obtain ⟨cl146, Ar146, q146, S146, N146', H146, G146⟩ := id H5
  obtain ⟨cq147, kq147, qa147, qb147, qc147⟩ := isOf hZ e145 H2
  obtain ⟨_, _, ⟨T147, L147, k147, n147⟩, -, X147, ⟨Lc147, hQ147, l147, y147, z147⟩, st147⟩ := X145.virtualBack hx (y := (⟨"java/lang/String", "coder", "()B"⟩ : MethodName)) (z := (⟨"java/lang/String", "coder", "()B"⟩ : MethodName)) hown (mvT hZ (hw _ (List.mem_of_getElem? (i := 38) rfl))) (mvT hZ (hw _ (List.mem_of_getElem? (i := 39) rfl))) (notFace_of_selects (args := #[]) (mvT hZ (hw _ (List.mem_of_getElem? (i := 41) rfl)))) (mvT hZ (hw _ (List.mem_of_getElem? (i := 41) rfl))) (mvT hZ (hw _ (List.mem_of_getElem? (i := 40) rfl))) (by decide) (backOf (W := 1) (rmCod l Z a0 hw [] o0 G1 cs bv kb z M bs h0 n0 (by omega) H0 (hG1 : ¬ (G1 = (0 : Int32))) H2 H3 H4 H5 (cd : own_cod cs z M bs) (hn : cs.length ≤ 1000) (hbd : own_bd cs)) hZ (hw _ (List.mem_of_getElem? (i := 42) rfl)) (hw _ (List.mem_of_getElem? (i := 4) rfl)) (by decide) (by decide)) qa147 qc147 (g := (mkF m 6 #[.val (.ref o0)] [(.ref o0), (.int (Int32.ofNat M))])) rfl (by rw [hml]; rfl) (Steps.refl _) (argsL := []) (rest := [(.int (Int32.ofNat M))]) (lenOf pd_6 rfl) rfl (by show 2 * 0 + _ ≤ _; exact Nat.le_of_eq rfl) (hb hby d6_6) (fun _ _ => ⟨rfl, e145, (by decide : 0 + 0 ≤ _), (by decide : 0 + 0 ≤ _)⟩)
  dsimp only [Pt.U, Pt.locs, Pt.cells, Pt.slots] at X147 l147 y147 z147 st147 hQ147
  subst l147 y147 z147
  obtain ⟨rfl, N147q, e147⟩ := hQ147
  have N147 := Fr.app N0 N147q
  obtain ⟨fs, hr, hrun, hended, hW, hsame⟩ := X147.leave (v := some (.int ((Int32.ofNat M) >>> (z &&& 31)))) (fun h => by rw [Bd.returns] at h; cases h)
  refine ⟨_, _, pre0 _ ?_, hrun, hended, _, _, rfl, ?_, ⟨_, rfl⟩, hW, hsame.mono (by decide) (by decide)⟩
  · show Steps p.tables e below (s₁.setTop (mkF m 0 #[.val (.ref o0)] [])) _
    refine XS.aloadN X0.here hx rfl (hb hby d6_0) rfl rfl ?_
    show Steps p.tables e below (s₁.setTop (mkF m 1 #[.val (.ref o0)] [(.ref o0)])) _
    refine st145 _ ?_
    show Steps p.tables e below (T145.setTop (mkF m 4 #[.val (.ref o0)] [(.ref bv)])) _
    refine X145.arraylength hx (by rw [e145]; exact Ar146.1) (State.isArrayOf_alike hZ.alike Ar146.2.1) (g := (mkF m 4 #[.val (.ref o0)] [(.ref bv)])) rfl rfl (hb hby d6_4) _ ?_
    rw [len_of S146 N146']
    show Steps p.tables e below (T145.setTop (mkF m 5 #[.val (.ref o0)] [(.int (Int32.ofNat M))])) _
    refine XS.aloadN X145.here hx rfl (hb hby d6_5) rfl rfl ?_
    show Steps p.tables e below (T145.setTop (mkF m 6 #[.val (.ref o0)] [(.ref o0), (.int (Int32.ofNat M))])) _
    refine st147.trans ?_
    show Steps p.tables e below (T147.setTop (mkF m 9 #[.val (.ref o0)] [(.int z), (.int (Int32.ofNat M))])) _
    refine XS.ishr X147.here hx rfl (hb hby d6_9) rfl ?_
    show Steps p.tables e below (T147.setTop (mkF m 10 #[.val (.ref o0)] [(.int ((Int32.ofNat M) >>> (z &&& 31)))])) _
    exact retI X147 hx Bd.returns (hb hby d6_10) hr
  · show QrmLen Z o0 G1 cs bv kb z M bs h0 n0 _ T147.heap _
    rw [e147]
    exact ⟨(congrArg (fun x => some (Value.int x)) (own_len cd hn)), N147, rfl⟩
theorem d9_0 : decode jdk_42_method_154_code 0 = .ok (.getstatic 38, 3) := by decide +kernel
theorem d9_3 : decode jdk_42_method_154_code 3 = .ok (.ifCond .eq 14, 3) := by decide +kernel
theorem d9_6 : decode jdk_42_method_154_code 6 = .ok (.aload_n 0, 1) := by decide +kernel
theorem d9_7 : decode jdk_42_method_154_code 7 = .ok (.getfield 15, 3) := by decide +kernel
theorem d9_10 : decode jdk_42_method_154_code 10 = .ok (.ifCond .ne 7, 3) := by decide +kernel
theorem d9_13 : decode jdk_42_method_154_code 13 = .ok (.iconst 1, 1) := by decide +kernel
theorem d9_14 : decode jdk_42_method_154_code 14 = .ok (.goto 4, 3) := by decide +kernel
theorem d9_18 : decode jdk_42_method_154_code 18 = .ok (.ireturn, 1) := by decide +kernel
theorem d9_17 : decode jdk_42_method_154_code 17 = .ok (.iconst 0, 1) := by decide +kernel
theorem ef_rmLat (m : MethodId) (o0 : Addr) : entryFrame m #[(.ref o0)] 1 = mkF m 0 #[.val (.ref o0)] [] := by first | (simp [entryFrame, mkF, argsToLocals, Value.category]; done) | rfl
def QrmLat (Z : State) (o0 : Addr) (G1 : Int32) (cs : List Int32) (bv : Addr) (kb : ClassId) (z : Int32) (M : Nat) (bs : List Value) (h0 : Heap) (n0 : Nat) (v : Option Value) (h : Heap) (L : List Loc) : Prop := v = some (.int (bi (z = (0 : Int32)))) ∧ Fr n0 L ∧ h = h0
set_option maxRecDepth 65536 in
set_option maxHeartbeats 40000000 in
theorem rmLat (l : Launch) (Z : State) (a0 : Array Value) (hw : ∀ d ∈ tables_1, d.before a0 Z = true) (ws : List Jvm.Cond) (o0 : Addr) (G1 : Int32) (cs : List Int32) (bv : Addr) (kb : ClassId) (z : Int32) (M : Nat) (bs : List Value) (h0 : Heap) (n0 : Nat) (Z0 : n0 ≤ h0.size) (H0 : Sta Z h0 "java/lang/String" "COMPACT_STRINGS" "Z" (.int G1)) (hG1 : ¬ (G1 = (0 : Int32))) (H2 : Exa Z h0 o0 "java/lang/String") (H3 : Fld Z h0 o0 "java/lang/String" "value" "[B" (.ref bv)) (H4 : Fld Z h0 o0 "java/lang/String" "coder" "B" (.int z)) (H5 : Arv Z h0 bv kb .byte (Int32.ofNat M) bs (.int (0 : Int32))) (cd : own_cod cs z M bs) (hn : cs.length ≤ 1000) (hbd : own_bd cs) :
    MetFree l (⟨"java/lang/String", "isLatin1", "()Z"⟩ : MethodName) (head1 (Jvm.Cond.code (⟨"java/lang/String", "isLatin1", "()Z"⟩ : MethodName) jdk_42_method_154_code 1 (some .boolean) :: ws) ({ frames := 0, cells := 0, slots := 0, locals := 0 } : Room)) (fun a U => a = #[(.ref o0)] ∧ Z.Warmed39 U.vm ∧ U.heap = h0) (fun _ _ _ _ _ => True) (fun _ U o U' => ∃ v L, o = .returned v ∧ QrmLat Z o0 G1 cs bv kb z M bs h0 n0 v U'.heap L ∧ FrameEnd U o U' L ({ frames := 0, cells := 0, slots := 0, locals := 0 } : Room).cells ({ frames := 0, cells := 0, slots := 0, locals := 0 } : Room).slots) := by
  refine MetFree.of_bodySF (plainFor_of_name pn_5) hisR ?_
  intro p e s m args below meth c s₁ Bd hml0 hP hK
  obtain ⟨rfl, hZ, hh⟩ := hP
  have hx := Bd.exec
  have hby := Bd.bytes
  have hml : c.maxLocals = 1 := hml0
  have hown : s.vm.findClass "java/lang/String" = some m.cls := findClass_of_methodNamed Bd.named
  have hnm := (name_of_methodNamed Bd.named Bd.method).1
  have X0 : Stand p l e ({ frames := 0, cells := 0, slots := 0, locals := 0 } : Room) s m #[(.ref o0)] below meth c s₁ [] 0 0 := Stand.of_body Bd
  have e0 : s₁.heap = h0 := by rw [← hh, Bd.state]; rfl
  have N0 := Fr.nil n0
  have pre0 : ∀ t, Steps p.tables e below (s₁.setTop (mkF m 0 #[.val (.ref o0)] [])) t → Steps p.tables e below (s₁.setTop (entryFrame m #[(.ref o0)] 1)) t := fun t k => castTop (ef_rmLat m o0) k
  have z148 : @LT.lt Nat _ o0 (Array.size h0) := H2.lt
  have z149 : @LT.lt Nat _ o0 (Array.size h0) := H3.lt
  have z150 : @LT.lt Nat _ o0 (Array.size h0) := H4.lt
  have z151 : @LT.lt Nat _ bv (Array.size h0) := H5.lt
  have KC0 : Keep h0 h0 [] := Keep.refl _ _
  obtain ⟨T152, X152, e152, st152⟩ := getS2 X0 hx hZ hown (host := "") (Or.inl (hw _ (List.mem_of_getElem? (i := 43) rfl))) Via.refl e0 H0 (g := (mkF m 0 #[.val (.ref o0)] [])) rfl (hb hby d9_0)
  obtain ⟨T153, X153, e153, st153⟩ := getF X152 hx hZ hown (host := "") (Or.inl (hw _ (List.mem_of_getElem? (i := 22) rfl))) Via.refl e152 H4 (g := (mkF m 7 #[.val (.ref o0)] [(.ref o0)])) rfl rfl (hb hby d9_7)
  have pre154 : ∀ t, Steps p.tables e below (T153.setTop (mkF m 10 #[.val (.ref o0)] [(.int z)])) t → Steps p.tables e below (s₁.setTop (entryFrame m #[(.ref o0)] 1)) t := fun t k => by
    refine pre0 _ ?_
    show Steps p.tables e below (s₁.setTop (mkF m 0 #[.val (.ref o0)] [])) _
    refine st152 _ ?_
    show Steps p.tables e below (T152.setTop (mkF m 3 #[.val (.ref o0)] [(.int G1)])) _
    refine XS.ifNo X152.here hx rfl (hb hby d9_3) rfl ((if0 _ _).trans (feq (hG1 : ¬ (G1 = (0 : Int32)))).1) ?_
    show Steps p.tables e below (T152.setTop (mkF m 6 #[.val (.ref o0)] [])) _
    refine XS.aloadN X152.here hx rfl (hb hby d9_6) rfl rfl ?_
    show Steps p.tables e below (T152.setTop (mkF m 7 #[.val (.ref o0)] [(.ref o0)])) _
    refine st153 _ ?_
    exact k
  by_cases hc155 : z = (0 : Int32)
  · obtain ⟨fs, hr, hrun, hended, hW, hsame⟩ := X153.leave (v := some (.int (1 : Int32))) (fun h => by rw [Bd.returns] at h; cases h)
    refine ⟨_, _, pre154 _ ?_, hrun, hended, _, _, rfl, ?_, ⟨_, rfl⟩, hW, hsame.mono (by decide) (by decide)⟩
    · show Steps p.tables e below (T153.setTop (mkF m 10 #[.val (.ref o0)] [(.int z)])) _
      refine XS.ifNo X153.here hx rfl (hb hby d9_10) rfl ((if0 _ _).trans (teq (hc155 : z = (0 : Int32))).2) ?_
      show Steps p.tables e below (T153.setTop (mkF m 13 #[.val (.ref o0)] [])) _
      refine XS.iconst X153.here hx rfl (hb hby d9_13) ?_
      show Steps p.tables e below (T153.setTop (mkF m 14 #[.val (.ref o0)] [(.int (1 : Int32))])) _
      refine XS.goto X153.here hx rfl (pc0 := 14) (pc' := 18) rfl (hb hby d9_14) (by decide) (by decide) ?_
      show Steps p.tables e below (T153.setTop (mkF m 18 #[.val (.ref o0)] [(.int (1 : Int32))])) _
      exact retN X153 hx (t := .boolean) Bd.returns (by simp) (hb hby d9_18) hr
    · show QrmLat Z o0 G1 cs bv kb z M bs h0 n0 _ T153.heap _
      rw [e153]
      exact ⟨(congrArg (fun x => some (Value.int x)) (bi_t hc155).symm), N0, rfl⟩
  · obtain ⟨fs, hr, hrun, hended, hW, hsame⟩ := X153.leave (v := some (.int (0 : Int32))) (fun h => by rw [Bd.returns] at h; cases h)
    refine ⟨_, _, pre154 _ ?_, hrun, hended, _, _, rfl, ?_, ⟨_, rfl⟩, hW, hsame.mono (by decide) (by decide)⟩
    · show Steps p.tables e below (T153.setTop (mkF m 10 #[.val (.ref o0)] [(.int z)])) _
      refine XS.ifYes X153.here hx rfl (pc0 := 10) (pc' := 17) rfl (hb hby d9_10) rfl ((if0 _ _).trans (feq (hc155 : ¬ (z = (0 : Int32)))).2) (by decide) (by decide) ?_
      show Steps p.tables e below (T153.setTop (mkF m 17 #[.val (.ref o0)] [])) _
      refine XS.iconst X153.here hx rfl (hb hby d9_17) ?_
      show Steps p.tables e below (T153.setTop (mkF m 18 #[.val (.ref o0)] [(.int (0 : Int32))])) _
      exact retN X153 hx (t := .boolean) Bd.returns (by simp) (hb hby d9_18) hr
    · show QrmLat Z o0 G1 cs bv kb z M bs h0 n0 _ T153.heap _
      rw [e153]
      exact ⟨(congrArg (fun x => some (Value.int x)) (bi_f hc155).symm), N0, rfl⟩
theorem d12_0 : decode jdk_41_method_11_code 0 = .ok (.iload_n 0, 1) := by decide +kernel
theorem d12_1 : decode jdk_41_method_11_code 1 = .ok (.ifCond .lt 8, 3) := by decide +kernel
theorem d12_4 : decode jdk_41_method_11_code 4 = .ok (.iload_n 0, 1) := by decide +kernel
theorem d12_5 : decode jdk_41_method_11_code 5 = .ok (.iload_n 1, 1) := by decide +kernel
theorem d12_6 : decode jdk_41_method_11_code 6 = .ok (.if_icmp .lt 10, 3) := by decide +kernel
theorem d12_16 : decode jdk_41_method_11_code 16 = .ok (.iload_n 0, 1) := by decide +kernel
theorem d12_17 : decode jdk_41_method_11_code 17 = .ok (.ireturn, 1) := by decide +kernel
theorem pn_12 : plainName "jdk/internal/util/Preconditions" = true := by first | (simp [plainName, overriddenIn]; done) | decide +kernel
theorem ef_rmPcN (m : MethodId) (p0 : Int32) (p1 : Int32) : entryFrame m #[(.int p0), (.int p1), .null] 3 = mkF m 0 #[.val (.int p0), .val (.int p1), .val .null] [] := by first | (simp [entryFrame, mkF, argsToLocals, Value.category]; done) | rfl
def QrmPcN (Z : State) (p0 : Int32) (p1 : Int32) (h0 : Heap) (n0 : Nat) (v : Option Value) (h : Heap) (L : List Loc) : Prop := v = some (.int p0) ∧ Fr n0 L ∧ h = h0
set_option maxRecDepth 65536 in
set_option maxHeartbeats 40000000 in
theorem rmPcN (l : Launch) (Z : State) (a0 : Array Value) (hw : ∀ d ∈ tables_1, d.before a0 Z = true) (ws : List Jvm.Cond) (p0 : Int32) (p1 : Int32) (h0 : Heap) (n0 : Nat) (Z0 : n0 ≤ h0.size) (h1 : ¬ (p0 < 0)) (h2 : p0 < p1) :
    MetFree l (⟨"jdk/internal/util/Preconditions", "checkIndex", "(IILjava/util/function/BiFunction;)I"⟩ : MethodName) (head1 (Jvm.Cond.code (⟨"jdk/internal/util/Preconditions", "checkIndex", "(IILjava/util/function/BiFunction;)I"⟩ : MethodName) jdk_41_method_11_code 3 (some .int) :: ws) ({ frames := 0, cells := 0, slots := 0, locals := 0 } : Room)) (fun a U => a = #[(.int p0), (.int p1), .null] ∧ Z.Warmed39 U.vm ∧ U.heap = h0) (fun _ _ _ _ _ => True) (fun _ U o U' => ∃ v L, o = .returned v ∧ QrmPcN Z p0 p1 h0 n0 v U'.heap L ∧ FrameEnd U o U' L ({ frames := 0, cells := 0, slots := 0, locals := 0 } : Room).cells ({ frames := 0, cells := 0, slots := 0, locals := 0 } : Room).slots) := by
  refine MetFree.of_bodySF (plainFor_of_name pn_12) hisR ?_
  intro p e s m args below meth c s₁ Bd hml0 hP hK
  obtain ⟨rfl, hZ, hh⟩ := hP
  have hx := Bd.exec
  have hby := Bd.bytes
  have hml : c.maxLocals = 3 := hml0
  have hown : s.vm.findClass "jdk/internal/util/Preconditions" = some m.cls := findClass_of_methodNamed Bd.named
  have hnm := (name_of_methodNamed Bd.named Bd.method).1
  have X0 : Stand p l e ({ frames := 0, cells := 0, slots := 0, locals := 0 } : Room) s m #[(.int p0), (.int p1), .null] below meth c s₁ [] 0 0 := Stand.of_body Bd
  have e0 : s₁.heap = h0 := by rw [← hh, Bd.state]; rfl
  have N0 := Fr.nil n0
  have pre0 : ∀ t, Steps p.tables e below (s₁.setTop (mkF m 0 #[.val (.int p0), .val (.int p1), .val .null] [])) t → Steps p.tables e below (s₁.setTop (entryFrame m #[(.int p0), (.int p1), .null] 3)) t := fun t k => castTop (ef_rmPcN m p0 p1) k
  have KC0 : Keep h0 h0 [] := Keep.refl _ _
  obtain ⟨fs, hr, hrun, hended, hW, hsame⟩ := X0.leave (v := some (.int p0)) (fun h => by rw [Bd.returns] at h; cases h)
  refine ⟨_, _, pre0 _ ?_, hrun, hended, _, _, rfl, ?_, ⟨_, rfl⟩, hW, hsame.mono (by decide) (by decide)⟩
  · show Steps p.tables e below (s₁.setTop (mkF m 0 #[.val (.int p0), .val (.int p1), .val .null] [])) _
    refine XS.iloadN X0.here hx rfl (hb hby d12_0) rfl ?_
    show Steps p.tables e below (s₁.setTop (mkF m 1 #[.val (.int p0), .val (.int p1), .val .null] [(.int p0)])) _
    refine XS.ifNo X0.here hx rfl (hb hby d12_1) rfl ((if0 _ _).trans (flt (h1 : ¬ (p0 < (0 : Int32)))).1) ?_
    show Steps p.tables e below (s₁.setTop (mkF m 4 #[.val (.int p0), .val (.int p1), .val .null] [])) _
    refine XS.iloadN X0.here hx rfl (hb hby d12_4) rfl ?_
    show Steps p.tables e below (s₁.setTop (mkF m 5 #[.val (.int p0), .val (.int p1), .val .null] [(.int p0)])) _
    refine XS.iloadN X0.here hx rfl (hb hby d12_5) rfl ?_
    show Steps p.tables e below (s₁.setTop (mkF m 6 #[.val (.int p0), .val (.int p1), .val .null] [(.int p1), (.int p0)])) _
    refine XS.icmpYes X0.here hx rfl (pc0 := 6) (pc' := 16) rfl (hb hby d12_6) rfl (tlt (h2 : p0 < p1)).1 (by decide) (by decide) ?_
    show Steps p.tables e below (s₁.setTop (mkF m 16 #[.val (.int p0), .val (.int p1), .val .null] [])) _
    refine XS.iloadN X0.here hx rfl (hb hby d12_16) rfl ?_
    show Steps p.tables e below (s₁.setTop (mkF m 17 #[.val (.int p0), .val (.int p1), .val .null] [(.int p0)])) _
    exact retI X0 hx Bd.returns (hb hby d12_17) hr
  · show QrmPcN Z p0 p1 h0 n0 _ s₁.heap _
    rw [e0]
    exact ⟨rfl, N0, rfl⟩
theorem ef_rmPcR (m : MethodId) (p0 : Int32) (p1 : Int32) (o2 : Addr) : entryFrame m #[(.int p0), (.int p1), (.ref o2)] 3 = mkF m 0 #[.val (.int p0), .val (.int p1), .val (.ref o2)] [] := by first | (simp [entryFrame, mkF, argsToLocals, Value.category]; done) | rfl
def QrmPcR (Z : State) (p0 : Int32) (p1 : Int32) (o2 : Addr) (h0 : Heap) (n0 : Nat) (v : Option Value) (h : Heap) (L : List Loc) : Prop := v = some (.int p0) ∧ Fr n0 L ∧ h = h0
set_option maxRecDepth 65536 in
set_option maxHeartbeats 40000000 in
theorem rmPcR (l : Launch) (Z : State) (a0 : Array Value) (hw : ∀ d ∈ tables_1, d.before a0 Z = true) (ws : List Jvm.Cond) (p0 : Int32) (p1 : Int32) (o2 : Addr) (h0 : Heap) (n0 : Nat) (Z0 : n0 ≤ h0.size) (h1 : ¬ (p0 < 0)) (h2 : p0 < p1) :
    MetFree l (⟨"jdk/internal/util/Preconditions", "checkIndex", "(IILjava/util/function/BiFunction;)I"⟩ : MethodName) (head1 (Jvm.Cond.code (⟨"jdk/internal/util/Preconditions", "checkIndex", "(IILjava/util/function/BiFunction;)I"⟩ : MethodName) jdk_41_method_11_code 3 (some .int) :: ws) ({ frames := 0, cells := 0, slots := 0, locals := 0 } : Room)) (fun a U => a = #[(.int p0), (.int p1), (.ref o2)] ∧ Z.Warmed39 U.vm ∧ U.heap = h0) (fun _ _ _ _ _ => True) (fun _ U o U' => ∃ v L, o = .returned v ∧ QrmPcR Z p0 p1 o2 h0 n0 v U'.heap L ∧ FrameEnd U o U' L ({ frames := 0, cells := 0, slots := 0, locals := 0 } : Room).cells ({ frames := 0, cells := 0, slots := 0, locals := 0 } : Room).slots) := by
  refine MetFree.of_bodySF (plainFor_of_name pn_12) hisR ?_
  intro p e s m args below meth c s₁ Bd hml0 hP hK
  obtain ⟨rfl, hZ, hh⟩ := hP
  have hx := Bd.exec
  have hby := Bd.bytes
  have hml : c.maxLocals = 3 := hml0
  have hown : s.vm.findClass "jdk/internal/util/Preconditions" = some m.cls := findClass_of_methodNamed Bd.named
  have hnm := (name_of_methodNamed Bd.named Bd.method).1
  have X0 : Stand p l e ({ frames := 0, cells := 0, slots := 0, locals := 0 } : Room) s m #[(.int p0), (.int p1), (.ref o2)] below meth c s₁ [] 0 0 := Stand.of_body Bd
  have e0 : s₁.heap = h0 := by rw [← hh, Bd.state]; rfl
  have N0 := Fr.nil n0
  have pre0 : ∀ t, Steps p.tables e below (s₁.setTop (mkF m 0 #[.val (.int p0), .val (.int p1), .val (.ref o2)] [])) t → Steps p.tables e below (s₁.setTop (entryFrame m #[(.int p0), (.int p1), (.ref o2)] 3)) t := fun t k => castTop (ef_rmPcR m p0 p1 o2) k
  have KC0 : Keep h0 h0 [] := Keep.refl _ _
  obtain ⟨fs, hr, hrun, hended, hW, hsame⟩ := X0.leave (v := some (.int p0)) (fun h => by rw [Bd.returns] at h; cases h)
  refine ⟨_, _, pre0 _ ?_, hrun, hended, _, _, rfl, ?_, ⟨_, rfl⟩, hW, hsame.mono (by decide) (by decide)⟩
  · show Steps p.tables e below (s₁.setTop (mkF m 0 #[.val (.int p0), .val (.int p1), .val (.ref o2)] [])) _
    refine XS.iloadN X0.here hx rfl (hb hby d12_0) rfl ?_
    show Steps p.tables e below (s₁.setTop (mkF m 1 #[.val (.int p0), .val (.int p1), .val (.ref o2)] [(.int p0)])) _
    refine XS.ifNo X0.here hx rfl (hb hby d12_1) rfl ((if0 _ _).trans (flt (h1 : ¬ (p0 < (0 : Int32)))).1) ?_
    show Steps p.tables e below (s₁.setTop (mkF m 4 #[.val (.int p0), .val (.int p1), .val (.ref o2)] [])) _
    refine XS.iloadN X0.here hx rfl (hb hby d12_4) rfl ?_
    show Steps p.tables e below (s₁.setTop (mkF m 5 #[.val (.int p0), .val (.int p1), .val (.ref o2)] [(.int p0)])) _
    refine XS.iloadN X0.here hx rfl (hb hby d12_5) rfl ?_
    show Steps p.tables e below (s₁.setTop (mkF m 6 #[.val (.int p0), .val (.int p1), .val (.ref o2)] [(.int p1), (.int p0)])) _
    refine XS.icmpYes X0.here hx rfl (pc0 := 6) (pc' := 16) rfl (hb hby d12_6) rfl (tlt (h2 : p0 < p1)).1 (by decide) (by decide) ?_
    show Steps p.tables e below (s₁.setTop (mkF m 16 #[.val (.int p0), .val (.int p1), .val (.ref o2)] [])) _
    refine XS.iloadN X0.here hx rfl (hb hby d12_16) rfl ?_
    show Steps p.tables e below (s₁.setTop (mkF m 17 #[.val (.int p0), .val (.int p1), .val (.ref o2)] [(.int p0)])) _
    exact retI X0 hx Bd.returns (hb hby d12_17) hr
  · show QrmPcR Z p0 p1 o2 h0 n0 _ s₁.heap _
    rw [e0]
    exact ⟨rfl, N0, rfl⟩
theorem d11_0 : decode jdk_42_method_155_code 0 = .ok (.iload_n 0, 1) := by decide +kernel
theorem d11_1 : decode jdk_42_method_155_code 1 = .ok (.iload_n 1, 1) := by decide +kernel
theorem d11_2 : decode jdk_42_method_155_code 2 = .ok (.getstatic 1053, 3) := by decide +kernel
theorem d11_5 : decode jdk_42_method_155_code 5 = .ok (.invokestatic 1059, 3) := by decide +kernel
theorem pd_7 : parseMethodDescriptor "(IILjava/util/function/BiFunction;)I" = some ⟨[.int, .int, (.object "java/util/function/BiFunction")], some .int⟩ := by decide +kernel
theorem d11_8 : decode jdk_42_method_155_code 8 = .ok (.pop, 1) := by decide +kernel
theorem d11_9 : decode jdk_42_method_155_code 9 = .ok (.return_, 1) := by decide +kernel
theorem ef_rmSci (m : MethodId) (p0 : Int32) (p1 : Int32) : entryFrame m #[(.int p0), (.int p1)] 2 = mkF m 0 #[.val (.int p0), .val (.int p1)] [] := by first | (simp [entryFrame, mkF, argsToLocals, Value.category]; done) | rfl
def QrmSci (Z : State) (p0 : Int32) (p1 : Int32) (fm : Value) (h0 : Heap) (n0 : Nat) (v : Option Value) (h : Heap) (L : List Loc) : Prop := v = none ∧ Fr n0 L ∧ h = h0
set_option maxRecDepth 65536 in
set_option maxHeartbeats 40000000 in
theorem rmSci (l : Launch) (Z : State) (a0 : Array Value) (hw : ∀ d ∈ tables_1, d.before a0 Z = true) (ws : List Jvm.Cond) (p0 : Int32) (p1 : Int32) (fm : Value) (h0 : Heap) (n0 : Nat) (Z0 : n0 ≤ h0.size) (H0 : Sta Z h0 "jdk/internal/util/Preconditions" "SIOOBE_FORMATTER" "Ljava/util/function/BiFunction;" fm) (rf : fm.isRef = true) (h1 : ¬ (p0 < 0)) (h2 : p0 < p1) :
    MetFree l (⟨"java/lang/String", "checkIndex", "(II)V"⟩ : MethodName) (head1 (Jvm.Cond.code (⟨"java/lang/String", "checkIndex", "(II)V"⟩ : MethodName) jdk_42_method_155_code 2 none :: ws) ({ frames := 1, cells := 0, slots := 0, locals := 14 } : Room)) (fun a U => a = #[(.int p0), (.int p1)] ∧ Z.Warmed39 U.vm ∧ U.heap = h0) (fun _ _ _ _ _ => True) (fun _ U o U' => ∃ v L, o = .returned v ∧ QrmSci Z p0 p1 fm h0 n0 v U'.heap L ∧ FrameEnd U o U' L ({ frames := 1, cells := 0, slots := 0, locals := 14 } : Room).cells ({ frames := 1, cells := 0, slots := 0, locals := 14 } : Room).slots) := by
  refine MetFree.of_bodySF (plainFor_of_name pn_5) hisR ?_
  intro p e s m args below meth c s₁ Bd hml0 hP hK
  obtain ⟨rfl, hZ, hh⟩ := hP
  have hx := Bd.exec
  have hby := Bd.bytes
  have hml : c.maxLocals = 2 := hml0
  have hown : s.vm.findClass "java/lang/String" = some m.cls := findClass_of_methodNamed Bd.named
  have hnm := (name_of_methodNamed Bd.named Bd.method).1
  have X0 : Stand p l e ({ frames := 1, cells := 0, slots := 0, locals := 14 } : Room) s m #[(.int p0), (.int p1)] below meth c s₁ [] 0 0 := Stand.of_body Bd
  have e0 : s₁.heap = h0 := by rw [← hh, Bd.state]; rfl
  have N0 := Fr.nil n0
  have pre0 : ∀ t, Steps p.tables e below (s₁.setTop (mkF m 0 #[.val (.int p0), .val (.int p1)] [])) t → Steps p.tables e below (s₁.setTop (entryFrame m #[(.int p0), (.int p1)] 2)) t := fun t k => castTop (ef_rmSci m p0 p1) k
  have KC0 : Keep h0 h0 [] := Keep.refl _ _
  obtain ⟨T156, X156, e156, st156⟩ := getS2 X0 hx hZ hown (host := "") (Or.inl (hw _ (List.mem_of_getElem? (i := 63) rfl))) Via.refl e0 H0 (g := (mkF m 2 #[.val (.int p0), .val (.int p1)] [(.int p1), (.int p0)])) rfl (hb hby d11_2)
  obtain ⟨fw, hfw⟩ := own_rf rf
  have pre157 : ∀ t, Steps p.tables e below (T156.setTop (mkF m 5 #[.val (.int p0), .val (.int p1)] [fm, (.int p1), (.int p0)])) t → Steps p.tables e below (s₁.setTop (entryFrame m #[(.int p0), (.int p1)] 2)) t := fun t k => by
    refine pre0 _ ?_
    show Steps p.tables e below (s₁.setTop (mkF m 0 #[.val (.int p0), .val (.int p1)] [])) _
    refine XS.iloadN X0.here hx rfl (hb hby d11_0) rfl ?_
    show Steps p.tables e below (s₁.setTop (mkF m 1 #[.val (.int p0), .val (.int p1)] [(.int p0)])) _
    refine XS.iloadN X0.here hx rfl (hb hby d11_1) rfl ?_
    show Steps p.tables e below (s₁.setTop (mkF m 2 #[.val (.int p0), .val (.int p1)] [(.int p1), (.int p0)])) _
    refine st156 _ ?_
    exact k
  rcases hfw with hv158 | hv158
  · have pre159 : ∀ t, Steps p.tables e below (T156.setTop (mkF m 5 #[.val (.int p0), .val (.int p1)] [.null, (.int p1), (.int p0)])) t → Steps p.tables e below (s₁.setTop (entryFrame m #[(.int p0), (.int p1)] 2)) t := fun t k => pre157 t (by rw [hv158]; exact k)
    obtain ⟨_, _, ⟨T160, L160, k160, n160⟩, -, X160, ⟨Lc160, hQ160, l160, y160, z160⟩, st160⟩ := Jvm.LawKit.callS X156 hx (y := (⟨"jdk/internal/util/Preconditions", "checkIndex", "(IILjava/util/function/BiFunction;)I"⟩ : MethodName)) hown (mvT hZ (hw _ (List.mem_of_getElem? (i := 65) rfl))) (mvT hZ (hw _ (List.mem_of_getElem? (i := 66) rfl))) (mvT hZ (hw _ (List.mem_of_getElem? (i := 64) rfl))) (mvT hZ (hw _ (List.mem_of_getElem? (i := 67) rfl))) (by decide) (backOf (W := 0) (rmPcN l Z a0 hw [] p0 p1 h0 n0 (by omega) (h1 : ¬ (p0 < 0)) (h2 : p0 < p1)) hZ (hw _ (List.mem_of_getElem? (i := 67) rfl)) (hw _ (List.mem_of_getElem? (i := 64) rfl)) (by decide) (by decide)) (g := (mkF m 5 #[.val (.int p0), .val (.int p1)] [.null, (.int p1), (.int p0)])) rfl (by rw [hml]; rfl) (argsL := [(.int p0), (.int p1), .null]) (rest := []) (lenOf pd_7 rfl) rfl (by show 2 * 0 + _ ≤ _; exact Nat.le_of_eq rfl) (hb hby d11_5) (fun _ _ => ⟨rfl, e156, (by decide : 0 + 0 ≤ _), (by decide : 0 + 0 ≤ _)⟩)
    dsimp only [Pt.U, Pt.locs, Pt.cells, Pt.slots] at X160 l160 y160 z160 st160 hQ160
    subst l160 y160 z160
    obtain ⟨rfl, N160q, e160⟩ := hQ160
    have N160 := Fr.app N0 N160q
    obtain ⟨fs, hr, hrun, hended, hW, hsame⟩ := X160.leave (v := none) (fun _ => rfl)
    refine ⟨_, _, pre159 _ ?_, hrun, hended, _, _, rfl, ?_, ⟨_, rfl⟩, hW, hsame.mono (by decide) (by decide)⟩
    · show Steps p.tables e below (T156.setTop (mkF m 5 #[.val (.int p0), .val (.int p1)] [.null, (.int p1), (.int p0)])) _
      refine st160 _ ?_
      show Steps p.tables e below (T160.setTop (mkF m 8 #[.val (.int p0), .val (.int p1)] [(.int p0)])) _
      refine XS.pop X160.here hx rfl (hb hby d11_8) rfl rfl ?_
      show Steps p.tables e below (T160.setTop (mkF m 9 #[.val (.int p0), .val (.int p1)] [])) _
      exact X160.returnOut hx Bd.returns (hb hby d11_9) hr
    · show QrmSci Z p0 p1 fm h0 n0 _ T160.heap _
      rw [e160]
      exact ⟨rfl, N160, rfl⟩
  · have pre161 : ∀ t, Steps p.tables e below (T156.setTop (mkF m 5 #[.val (.int p0), .val (.int p1)] [(.ref fw), (.int p1), (.int p0)])) t → Steps p.tables e below (s₁.setTop (entryFrame m #[(.int p0), (.int p1)] 2)) t := fun t k => pre157 t (by rw [hv158]; exact k)
    obtain ⟨_, _, ⟨T162, L162, k162, n162⟩, -, X162, ⟨Lc162, hQ162, l162, y162, z162⟩, st162⟩ := Jvm.LawKit.callS X156 hx (y := (⟨"jdk/internal/util/Preconditions", "checkIndex", "(IILjava/util/function/BiFunction;)I"⟩ : MethodName)) hown (mvT hZ (hw _ (List.mem_of_getElem? (i := 65) rfl))) (mvT hZ (hw _ (List.mem_of_getElem? (i := 66) rfl))) (mvT hZ (hw _ (List.mem_of_getElem? (i := 64) rfl))) (mvT hZ (hw _ (List.mem_of_getElem? (i := 67) rfl))) (by decide) (backOf (W := 0) (rmPcR l Z a0 hw [] p0 p1 fw h0 n0 (by omega) (h1 : ¬ (p0 < 0)) (h2 : p0 < p1)) hZ (hw _ (List.mem_of_getElem? (i := 67) rfl)) (hw _ (List.mem_of_getElem? (i := 64) rfl)) (by decide) (by decide)) (g := (mkF m 5 #[.val (.int p0), .val (.int p1)] [(.ref fw), (.int p1), (.int p0)])) rfl (by rw [hml]; rfl) (argsL := [(.int p0), (.int p1), (.ref fw)]) (rest := []) (lenOf pd_7 rfl) rfl (by show 2 * 0 + _ ≤ _; exact Nat.le_of_eq rfl) (hb hby d11_5) (fun _ _ => ⟨rfl, e156, (by decide : 0 + 0 ≤ _), (by decide : 0 + 0 ≤ _)⟩)
    dsimp only [Pt.U, Pt.locs, Pt.cells, Pt.slots] at X162 l162 y162 z162 st162 hQ162
    subst l162 y162 z162
    obtain ⟨rfl, N162q, e162⟩ := hQ162
    have N162 := Fr.app N0 N162q
    obtain ⟨fs, hr, hrun, hended, hW, hsame⟩ := X162.leave (v := none) (fun _ => rfl)
    refine ⟨_, _, pre161 _ ?_, hrun, hended, _, _, rfl, ?_, ⟨_, rfl⟩, hW, hsame.mono (by decide) (by decide)⟩
    · show Steps p.tables e below (T156.setTop (mkF m 5 #[.val (.int p0), .val (.int p1)] [(.ref fw), (.int p1), (.int p0)])) _
      refine st162 _ ?_
      show Steps p.tables e below (T162.setTop (mkF m 8 #[.val (.int p0), .val (.int p1)] [(.int p0)])) _
      refine XS.pop X162.here hx rfl (hb hby d11_8) rfl rfl ?_
      show Steps p.tables e below (T162.setTop (mkF m 9 #[.val (.int p0), .val (.int p1)] [])) _
      exact X162.returnOut hx Bd.returns (hb hby d11_9) hr
    · show QrmSci Z p0 p1 fm h0 n0 _ T162.heap _
      rw [e162]
      exact ⟨rfl, N162, rfl⟩
theorem d10_0 : decode jdk_43_method_2_code 0 = .ok (.iload_n 1, 1) := by decide +kernel
theorem d10_1 : decode jdk_43_method_2_code 1 = .ok (.aload_n 0, 1) := by decide +kernel
theorem d10_2 : decode jdk_43_method_2_code 2 = .ok (.arraylength, 1) := by decide +kernel
theorem d10_3 : decode jdk_43_method_2_code 3 = .ok (.invokestatic 9, 3) := by decide +kernel
theorem pd_8 : parseMethodDescriptor "(II)V" = some ⟨[.int, .int], none⟩ := by decide +kernel
theorem d10_6 : decode jdk_43_method_2_code 6 = .ok (.aload_n 0, 1) := by decide +kernel
theorem d10_7 : decode jdk_43_method_2_code 7 = .ok (.iload_n 1, 1) := by decide +kernel
theorem d10_8 : decode jdk_43_method_2_code 8 = .ok (.baload, 1) := by decide +kernel
theorem d10_9 : decode jdk_43_method_2_code 9 = .ok (.sipush 255, 3) := by decide +kernel
theorem d10_12 : decode jdk_43_method_2_code 12 = .ok (.iand, 1) := by decide +kernel
theorem d10_13 : decode jdk_43_method_2_code 13 = .ok (.i2c, 1) := by decide +kernel
theorem d10_14 : decode jdk_43_method_2_code 14 = .ok (.ireturn, 1) := by decide +kernel
theorem pn_10 : plainName "java/lang/StringLatin1" = true := by first | (simp [plainName, overriddenIn]; done) | decide +kernel
theorem ef_rmLca (m : MethodId) (o0 : Addr) (i : Nat) : entryFrame m #[(.ref o0), (.int (Int32.ofNat i))] 2 = mkF m 0 #[.val (.ref o0), .val (.int (Int32.ofNat i))] [] := by first | (simp [entryFrame, mkF, argsToLocals, Value.category]; done) | rfl
def QrmLca (Z : State) (o0 : Addr) (i : Nat) (kb : ClassId) (cs : List Int32) (fm : Value) (h0 : Heap) (n0 : Nat) (v : Option Value) (h : Heap) (L : List Loc) : Prop := v = some (.int (cs.getD i 0)) ∧ Fr n0 L ∧ h = h0
set_option maxRecDepth 65536 in
set_option maxHeartbeats 40000000 in
theorem rmLca (l : Launch) (Z : State) (a0 : Array Value) (hw : ∀ d ∈ tables_1, d.before a0 Z = true) (ws : List Jvm.Cond) (o0 : Addr) (i : Nat) (kb : ClassId) (cs : List Int32) (fm : Value) (h0 : Heap) (n0 : Nat) (Z0 : n0 ≤ h0.size) (H0 : Sta Z h0 "jdk/internal/util/Preconditions" "SIOOBE_FORMATTER" "Ljava/util/function/BiFunction;" fm) (rf : fm.isRef = true) (H2 : Arv Z h0 o0 kb .byte (Int32.ofNat cs.length) (cs.map (fun c => Value.int (lo8 c))) (.int (0 : Int32))) (hi : i < cs.length) (hn : cs.length ≤ 1000) (hbd : own_bd cs) (hl : ∀ c ∈ cs, ¬ (255 : Int32) < c) :
    MetFree l (⟨"java/lang/StringLatin1", "charAt", "([BI)C"⟩ : MethodName) (head1 (Jvm.Cond.code (⟨"java/lang/StringLatin1", "charAt", "([BI)C"⟩ : MethodName) jdk_43_method_2_code 2 (some .char) :: ws) ({ frames := 2, cells := 0, slots := 0, locals := 27 } : Room)) (fun a U => a = #[(.ref o0), (.int (Int32.ofNat i))] ∧ Z.Warmed39 U.vm ∧ U.heap = h0) (fun _ _ _ _ _ => True) (fun _ U o U' => ∃ v L, o = .returned v ∧ QrmLca Z o0 i kb cs fm h0 n0 v U'.heap L ∧ FrameEnd U o U' L ({ frames := 2, cells := 0, slots := 0, locals := 27 } : Room).cells ({ frames := 2, cells := 0, slots := 0, locals := 27 } : Room).slots) := by
  refine MetFree.of_bodySF (plainFor_of_name pn_10) hisR ?_
  intro p e s m args below meth c s₁ Bd hml0 hP hK
  obtain ⟨rfl, hZ, hh⟩ := hP
  have hx := Bd.exec
  have hby := Bd.bytes
  have hml : c.maxLocals = 2 := hml0
  have hown : s.vm.findClass "java/lang/StringLatin1" = some m.cls := findClass_of_methodNamed Bd.named
  have hnm := (name_of_methodNamed Bd.named Bd.method).1
  have X0 : Stand p l e ({ frames := 2, cells := 0, slots := 0, locals := 27 } : Room) s m #[(.ref o0), (.int (Int32.ofNat i))] below meth c s₁ [] 0 0 := Stand.of_body Bd
  have e0 : s₁.heap = h0 := by rw [← hh, Bd.state]; rfl
  have N0 := Fr.nil n0
  have pre0 : ∀ t, Steps p.tables e below (s₁.setTop (mkF m 0 #[.val (.ref o0), .val (.int (Int32.ofNat i))] [])) t → Steps p.tables e below (s₁.setTop (entryFrame m #[(.ref o0), (.int (Int32.ofNat i))] 2)) t := fun t k => castTop (ef_rmLca m o0 i) k
  have z163 : @LT.lt Nat _ o0 (Array.size h0) := H2.lt
  have KC0 : Keep h0 h0 [] := Keep.refl _ _
  obtain ⟨cl164, Ar164, q164, S164, N164', H164, G164⟩ := id H2
  obtain ⟨_, _, ⟨T165, L165, k165, n165⟩, -, X165, ⟨Lc165, hQ165, l165, y165, z165⟩, st165⟩ := Jvm.LawKit.callS X0 hx (y := (⟨"java/lang/String", "checkIndex", "(II)V"⟩ : MethodName)) hown (mvT hZ (hw _ (List.mem_of_getElem? (i := 60) rfl))) (mvT hZ (hw _ (List.mem_of_getElem? (i := 61) rfl))) (mvT hZ (hw _ (List.mem_of_getElem? (i := 4) rfl))) (mvT hZ (hw _ (List.mem_of_getElem? (i := 62) rfl))) (by decide) (backOf (W := 0) (rmSci l Z a0 hw [] (Int32.ofNat i) (Int32.ofNat cs.length) fm h0 n0 (by omega) H0 (rf : fm.isRef = true) ((own_in hi (by omega)).1 : ¬ ((Int32.ofNat i) < 0)) ((own_in hi (by omega)).2 : (Int32.ofNat i) < (Int32.ofNat cs.length))) hZ (hw _ (List.mem_of_getElem? (i := 62) rfl)) (hw _ (List.mem_of_getElem? (i := 4) rfl)) (by decide) (by decide)) (g := (mkF m 3 #[.val (.ref o0), .val (.int (Int32.ofNat i))] [(.int (Int32.ofNat cs.length)), (.int (Int32.ofNat i))])) rfl (by rw [hml]; rfl) (argsL := [(.int (Int32.ofNat i)), (.int (Int32.ofNat cs.length))]) (rest := []) (lenOf pd_8 rfl) rfl (by show 2 * 0 + _ ≤ _; exact Nat.le_of_eq rfl) (hb hby d10_3) (fun _ _ => ⟨rfl, e0, (by decide : 0 + 0 ≤ _), (by decide : 0 + 0 ≤ _)⟩)
  dsimp only [Pt.U, Pt.locs, Pt.cells, Pt.slots] at X165 l165 y165 z165 st165 hQ165
  subst l165 y165 z165
  obtain ⟨rfl, N165q, e165⟩ := hQ165
  have N165 := Fr.app N0 N165q
  obtain ⟨cl166, Ar166, q166, S166, N166', H166, G166⟩ := id H2
  have hin166 : ¬ ((Int32.ofNat i) < 0 ∨ cl166.slots.size ≤ ((Int32.ofNat i)).toNatClampNeg) := inb_of S166 (own_in (by omega) (by omega))
  have hat166 : cl166.slots[((Int32.ofNat i)).toNatClampNeg]? = some (.int (lo8 (cs.getD i 0))) := H166.at hin166 (by rw [own_tn (by omega)]; simp [List.getD_eq_getElem?_getD, show i < cs.length from by omega])
  obtain ⟨fs, hr, hrun, hended, hW, hsame⟩ := X165.leave (v := some (.int (nar .char (((lo8 (cs.getD i 0)) &&& (255 : Int32)).toUInt32.toUInt16.toUInt32.toInt32)))) (fun h => by rw [Bd.returns] at h; cases h)
  refine ⟨_, _, pre0 _ ?_, hrun, hended, _, _, rfl, ?_, ⟨_, rfl⟩, hW, hsame.mono (by decide) (by decide)⟩
  · show Steps p.tables e below (s₁.setTop (mkF m 0 #[.val (.ref o0), .val (.int (Int32.ofNat i))] [])) _
    refine XS.iloadN X0.here hx rfl (hb hby d10_0) rfl ?_
    show Steps p.tables e below (s₁.setTop (mkF m 1 #[.val (.ref o0), .val (.int (Int32.ofNat i))] [(.int (Int32.ofNat i))])) _
    refine XS.aloadN X0.here hx rfl (hb hby d10_1) rfl rfl ?_
    show Steps p.tables e below (s₁.setTop (mkF m 2 #[.val (.ref o0), .val (.int (Int32.ofNat i))] [(.ref o0), (.int (Int32.ofNat i))])) _
    refine X0.arraylength hx (by rw [e0]; exact Ar164.1) (State.isArrayOf_alike hZ.alike Ar164.2.1) (g := (mkF m 2 #[.val (.ref o0), .val (.int (Int32.ofNat i))] [(.ref o0), (.int (Int32.ofNat i))])) rfl rfl (hb hby d10_2) _ ?_
    rw [len_of S164 N164']
    show Steps p.tables e below (s₁.setTop (mkF m 3 #[.val (.ref o0), .val (.int (Int32.ofNat i))] [(.int (Int32.ofNat cs.length)), (.int (Int32.ofNat i))])) _
    refine st165 _ ?_
    show Steps p.tables e below (T165.setTop (mkF m 6 #[.val (.ref o0), .val (.int (Int32.ofNat i))] [])) _
    refine XS.aloadN X165.here hx rfl (hb hby d10_6) rfl rfl ?_
    show Steps p.tables e below (T165.setTop (mkF m 7 #[.val (.ref o0), .val (.int (Int32.ofNat i))] [(.ref o0)])) _
    refine XS.iloadN X165.here hx rfl (hb hby d10_7) rfl ?_
    show Steps p.tables e below (T165.setTop (mkF m 8 #[.val (.ref o0), .val (.int (Int32.ofNat i))] [(.int (Int32.ofNat i)), (.ref o0)])) _
    refine X165.baloadBytes hx (j := (Int32.ofNat i)) (v := (.int (lo8 (cs.getD i 0)))) (by rw [e165]; exact Ar166.1) (State.isArrayOf_alike hZ.alike Ar166.2.1) Ar166.2.2 hin166 hat166 (g := (mkF m 8 #[.val (.ref o0), .val (.int (Int32.ofNat i))] [(.int (Int32.ofNat i)), (.ref o0)])) rfl rfl (hb hby d10_8) _ ?_
    show Steps p.tables e below (T165.setTop (mkF m 9 #[.val (.ref o0), .val (.int (Int32.ofNat i))] [(.int (lo8 (cs.getD i 0)))])) _
    refine XS.sipush X165.here hx rfl (hb hby d10_9) ?_
    show Steps p.tables e below (T165.setTop (mkF m 12 #[.val (.ref o0), .val (.int (Int32.ofNat i))] [(.int (255 : Int32)), (.int (lo8 (cs.getD i 0)))])) _
    refine XS.iand X165.here hx rfl (hb hby d10_12) rfl ?_
    show Steps p.tables e below (T165.setTop (mkF m 13 #[.val (.ref o0), .val (.int (Int32.ofNat i))] [(.int ((lo8 (cs.getD i 0)) &&& (255 : Int32)))])) _
    refine XS.i2c X165.here hx rfl (hb hby d10_13) rfl ?_
    show Steps p.tables e below (T165.setTop (mkF m 14 #[.val (.ref o0), .val (.int (Int32.ofNat i))] [(.int (((lo8 (cs.getD i 0)) &&& (255 : Int32)).toUInt32.toUInt16.toUInt32.toInt32))])) _
    exact retN X165 hx (t := .char) Bd.returns (by simp) (hb hby d10_14) hr
  · show QrmLca Z o0 i kb cs fm h0 n0 _ T165.heap _
    rw [e165]
    exact ⟨(congrArg (fun x => some (Value.int x)) (own_l8 _ (own_bdg hbd hi).1 (own_get hl hi))), N165, rfl⟩
theorem d26_0 : decode jdk_52_method_6_code 0 = .ok (.aload_n 0, 1) := by decide +kernel
theorem d26_1 : decode jdk_52_method_6_code 1 = .ok (.arraylength, 1) := by decide +kernel
theorem d26_2 : decode jdk_52_method_6_code 2 = .ok (.iconst 1, 1) := by decide +kernel
theorem d26_3 : decode jdk_52_method_6_code 3 = .ok (.ishr, 1) := by decide +kernel
theorem d26_4 : decode jdk_52_method_6_code 4 = .ok (.ireturn, 1) := by decide +kernel
theorem ef_rmUl (m : MethodId) (o0 : Addr) : entryFrame m #[(.ref o0)] 1 = mkF m 0 #[.val (.ref o0)] [] := by first | (simp [entryFrame, mkF, argsToLocals, Value.category]; done) | rfl
def QrmUl (Z : State) (o0 : Addr) (kb : ClassId) (n : Nat) (bs : List Value) (h0 : Heap) (n0 : Nat) (v : Option Value) (h : Heap) (L : List Loc) : Prop := v = some (.int (Int32.ofNat n)) ∧ Fr n0 L ∧ h = h0
set_option maxRecDepth 65536 in
set_option maxHeartbeats 40000000 in
theorem rmUl (l : Launch) (Z : State) (a0 : Array Value) (hw : ∀ d ∈ tables_1, d.before a0 Z = true) (ws : List Jvm.Cond) (o0 : Addr) (kb : ClassId) (n : Nat) (bs : List Value) (h0 : Heap) (n0 : Nat) (Z0 : n0 ≤ h0.size) (H0 : Arv Z h0 o0 kb .byte (Int32.ofNat (2 * n)) bs (.int (0 : Int32))) (hn : n ≤ 1000) :
    MetFree l (⟨"java/lang/StringUTF16", "length", "([B)I"⟩ : MethodName) (head1 (Jvm.Cond.code (⟨"java/lang/StringUTF16", "length", "([B)I"⟩ : MethodName) jdk_52_method_6_code 1 (some .int) :: ws) ({ frames := 0, cells := 0, slots := 0, locals := 0 } : Room)) (fun a U => a = #[(.ref o0)] ∧ Z.Warmed39 U.vm ∧ U.heap = h0) (fun _ _ _ _ _ => True) (fun _ U o U' => ∃ v L, o = .returned v ∧ QrmUl Z o0 kb n bs h0 n0 v U'.heap L ∧ FrameEnd U o U' L ({ frames := 0, cells := 0, slots := 0, locals := 0 } : Room).cells ({ frames := 0, cells := 0, slots := 0, locals := 0 } : Room).slots) := by
  refine MetFree.of_bodySF (plainFor_of_name pn_22) hisR ?_
  intro p e s m args below meth c s₁ Bd hml0 hP hK
  obtain ⟨rfl, hZ, hh⟩ := hP
  have hx := Bd.exec
  have hby := Bd.bytes
  have hml : c.maxLocals = 1 := hml0
  have hown : s.vm.findClass "java/lang/StringUTF16" = some m.cls := findClass_of_methodNamed Bd.named
  have hnm := (name_of_methodNamed Bd.named Bd.method).1
  have X0 : Stand p l e ({ frames := 0, cells := 0, slots := 0, locals := 0 } : Room) s m #[(.ref o0)] below meth c s₁ [] 0 0 := Stand.of_body Bd
  have e0 : s₁.heap = h0 := by rw [← hh, Bd.state]; rfl
  have N0 := Fr.nil n0
  have pre0 : ∀ t, Steps p.tables e below (s₁.setTop (mkF m 0 #[.val (.ref o0)] [])) t → Steps p.tables e below (s₁.setTop (entryFrame m #[(.ref o0)] 1)) t := fun t k => castTop (ef_rmUl m o0) k
  have z167 : @LT.lt Nat _ o0 (Array.size h0) := H0.lt
  have KC0 : Keep h0 h0 [] := Keep.refl _ _
  obtain ⟨cl168, Ar168, q168, S168, N168', H168, G168⟩ := id H0
  obtain ⟨fs, hr, hrun, hended, hW, hsame⟩ := X0.leave (v := some (.int ((Int32.ofNat (2 * n)) >>> ((1 : Int32) &&& 31)))) (fun h => by rw [Bd.returns] at h; cases h)
  refine ⟨_, _, pre0 _ ?_, hrun, hended, _, _, rfl, ?_, ⟨_, rfl⟩, hW, hsame.mono (by decide) (by decide)⟩
  · show Steps p.tables e below (s₁.setTop (mkF m 0 #[.val (.ref o0)] [])) _
    refine XS.aloadN X0.here hx rfl (hb hby d26_0) rfl rfl ?_
    show Steps p.tables e below (s₁.setTop (mkF m 1 #[.val (.ref o0)] [(.ref o0)])) _
    refine X0.arraylength hx (by rw [e0]; exact Ar168.1) (State.isArrayOf_alike hZ.alike Ar168.2.1) (g := (mkF m 1 #[.val (.ref o0)] [(.ref o0)])) rfl rfl (hb hby d26_1) _ ?_
    rw [len_of S168 N168']
    show Steps p.tables e below (s₁.setTop (mkF m 2 #[.val (.ref o0)] [(.int (Int32.ofNat (2 * n)))])) _
    refine XS.iconst X0.here hx rfl (hb hby d26_2) ?_
    show Steps p.tables e below (s₁.setTop (mkF m 3 #[.val (.ref o0)] [(.int (1 : Int32)), (.int (Int32.ofNat (2 * n)))])) _
    refine XS.ishr X0.here hx rfl (hb hby d26_3) rfl ?_
    show Steps p.tables e below (s₁.setTop (mkF m 4 #[.val (.ref o0)] [(.int ((Int32.ofNat (2 * n)) >>> ((1 : Int32) &&& 31)))])) _
    exact retI X0 hx Bd.returns (hb hby d26_4) hr
  · show QrmUl Z o0 kb n bs h0 n0 _ s₁.heap _
    rw [e0]
    exact ⟨(congrArg (fun x => some (Value.int x)) (shr1 (by omega))), N0, rfl⟩
theorem d25_0 : decode jdk_52_method_91_code 0 = .ok (.iload_n 0, 1) := by decide +kernel
theorem d25_1 : decode jdk_52_method_91_code 1 = .ok (.aload_n 1, 1) := by decide +kernel
theorem d25_2 : decode jdk_52_method_91_code 2 = .ok (.invokestatic 48, 3) := by decide +kernel
theorem pd_9 : parseMethodDescriptor "([B)I" = some ⟨[(.array .byte)], some .int⟩ := by decide +kernel
theorem d25_5 : decode jdk_52_method_91_code 5 = .ok (.invokestatic 414, 3) := by decide +kernel
theorem d25_8 : decode jdk_52_method_91_code 8 = .ok (.return_, 1) := by decide +kernel
theorem ef_rmUci (m : MethodId) (o1 : Addr) (i : Nat) : entryFrame m #[(.int (Int32.ofNat i)), (.ref o1)] 2 = mkF m 0 #[.val (.int (Int32.ofNat i)), .val (.ref o1)] [] := by first | (simp [entryFrame, mkF, argsToLocals, Value.category]; done) | rfl
def QrmUci (Z : State) (o1 : Addr) (i : Nat) (kb : ClassId) (cs : List Int32) (fm : Value) (h0 : Heap) (n0 : Nat) (v : Option Value) (h : Heap) (L : List Loc) : Prop := v = none ∧ Fr n0 L ∧ h = h0
set_option maxRecDepth 65536 in
set_option maxHeartbeats 40000000 in
theorem rmUci (l : Launch) (Z : State) (a0 : Array Value) (hw : ∀ d ∈ tables_1, d.before a0 Z = true) (ws : List Jvm.Cond) (o1 : Addr) (i : Nat) (kb : ClassId) (cs : List Int32) (fm : Value) (h0 : Heap) (n0 : Nat) (Z0 : n0 ≤ h0.size) (H0 : Sta Z h0 "jdk/internal/util/Preconditions" "SIOOBE_FORMATTER" "Ljava/util/function/BiFunction;" fm) (rf : fm.isRef = true) (H2 : Arv Z h0 o1 kb .byte (Int32.ofNat (2 * cs.length)) (wideBytes cs) (.int (0 : Int32))) (hi : i < cs.length) (hn : cs.length ≤ 1000) :
    MetFree l (⟨"java/lang/StringUTF16", "checkIndex", "(I[B)V"⟩ : MethodName) (head1 (Jvm.Cond.code (⟨"java/lang/StringUTF16", "checkIndex", "(I[B)V"⟩ : MethodName) jdk_52_method_91_code 2 none :: ws) ({ frames := 2, cells := 0, slots := 0, locals := 27 } : Room)) (fun a U => a = #[(.int (Int32.ofNat i)), (.ref o1)] ∧ Z.Warmed39 U.vm ∧ U.heap = h0) (fun _ _ _ _ _ => True) (fun _ U o U' => ∃ v L, o = .returned v ∧ QrmUci Z o1 i kb cs fm h0 n0 v U'.heap L ∧ FrameEnd U o U' L ({ frames := 2, cells := 0, slots := 0, locals := 27 } : Room).cells ({ frames := 2, cells := 0, slots := 0, locals := 27 } : Room).slots) := by
  refine MetFree.of_bodySF (plainFor_of_name pn_22) hisR ?_
  intro p e s m args below meth c s₁ Bd hml0 hP hK
  obtain ⟨rfl, hZ, hh⟩ := hP
  have hx := Bd.exec
  have hby := Bd.bytes
  have hml : c.maxLocals = 2 := hml0
  have hown : s.vm.findClass "java/lang/StringUTF16" = some m.cls := findClass_of_methodNamed Bd.named
  have hnm := (name_of_methodNamed Bd.named Bd.method).1
  have X0 : Stand p l e ({ frames := 2, cells := 0, slots := 0, locals := 27 } : Room) s m #[(.int (Int32.ofNat i)), (.ref o1)] below meth c s₁ [] 0 0 := Stand.of_body Bd
  have e0 : s₁.heap = h0 := by rw [← hh, Bd.state]; rfl
  have N0 := Fr.nil n0
  have pre0 : ∀ t, Steps p.tables e below (s₁.setTop (mkF m 0 #[.val (.int (Int32.ofNat i)), .val (.ref o1)] [])) t → Steps p.tables e below (s₁.setTop (entryFrame m #[(.int (Int32.ofNat i)), (.ref o1)] 2)) t := fun t k => castTop (ef_rmUci m o1 i) k
  have z169 : @LT.lt Nat _ o1 (Array.size h0) := H2.lt
  have KC0 : Keep h0 h0 [] := Keep.refl _ _
  obtain ⟨_, _, ⟨T170, L170, k170, n170⟩, -, X170, ⟨Lc170, hQ170, l170, y170, z170⟩, st170⟩ := Jvm.LawKit.callS X0 hx (y := (⟨"java/lang/StringUTF16", "length", "([B)I"⟩ : MethodName)) hown (mvT hZ (hw _ (List.mem_of_getElem? (i := 113) rfl))) (mvT hZ (hw _ (List.mem_of_getElem? (i := 114) rfl))) (mvT hZ (hw _ (List.mem_of_getElem? (i := 80) rfl))) (mvT hZ (hw _ (List.mem_of_getElem? (i := 115) rfl))) (by decide) (backOf (W := 1) (rmUl l Z a0 hw [] o1 kb cs.length (wideBytes cs) h0 n0 (by omega) H2 (hn : cs.length ≤ 1000)) hZ (hw _ (List.mem_of_getElem? (i := 115) rfl)) (hw _ (List.mem_of_getElem? (i := 80) rfl)) (by decide) (by decide)) (g := (mkF m 2 #[.val (.int (Int32.ofNat i)), .val (.ref o1)] [(.ref o1), (.int (Int32.ofNat i))])) rfl (by rw [hml]; rfl) (argsL := [(.ref o1)]) (rest := [(.int (Int32.ofNat i))]) (lenOf pd_9 rfl) rfl (by show 2 * 0 + _ ≤ _; exact Nat.le_of_eq rfl) (hb hby d25_2) (fun _ _ => ⟨rfl, e0, (by decide : 0 + 0 ≤ _), (by decide : 0 + 0 ≤ _)⟩)
  dsimp only [Pt.U, Pt.locs, Pt.cells, Pt.slots] at X170 l170 y170 z170 st170 hQ170
  subst l170 y170 z170
  obtain ⟨rfl, N170q, e170⟩ := hQ170
  have N170 := Fr.app N0 N170q
  obtain ⟨_, _, ⟨T171, L171, k171, n171⟩, -, X171, ⟨Lc171, hQ171, l171, y171, z171⟩, st171⟩ := Jvm.LawKit.callS X170 hx (y := (⟨"java/lang/String", "checkIndex", "(II)V"⟩ : MethodName)) hown (mvT hZ (hw _ (List.mem_of_getElem? (i := 116) rfl))) (mvT hZ (hw _ (List.mem_of_getElem? (i := 61) rfl))) (mvT hZ (hw _ (List.mem_of_getElem? (i := 4) rfl))) (mvT hZ (hw _ (List.mem_of_getElem? (i := 62) rfl))) (by decide) (backOf (W := 0) (rmSci l Z a0 hw [] (Int32.ofNat i) (Int32.ofNat cs.length) fm h0 n0 (by omega) H0 (rf : fm.isRef = true) ((own_in hi (by omega)).1 : ¬ ((Int32.ofNat i) < 0)) ((own_in hi (by omega)).2 : (Int32.ofNat i) < (Int32.ofNat cs.length))) hZ (hw _ (List.mem_of_getElem? (i := 62) rfl)) (hw _ (List.mem_of_getElem? (i := 4) rfl)) (by decide) (by decide)) (g := (mkF m 5 #[.val (.int (Int32.ofNat i)), .val (.ref o1)] [(.int (Int32.ofNat cs.length)), (.int (Int32.ofNat i))])) rfl (by rw [hml]; rfl) (argsL := [(.int (Int32.ofNat i)), (.int (Int32.ofNat cs.length))]) (rest := []) (lenOf pd_8 rfl) rfl (by show 2 * 0 + _ ≤ _; exact Nat.le_of_eq rfl) (hb hby d25_5) (fun _ _ => ⟨rfl, e170, (by decide : 0 + 0 ≤ _), (by decide : 0 + 0 ≤ _)⟩)
  dsimp only [Pt.U, Pt.locs, Pt.cells, Pt.slots] at X171 l171 y171 z171 st171 hQ171
  subst l171 y171 z171
  obtain ⟨rfl, N171q, e171⟩ := hQ171
  have N171 := Fr.app N170 N171q
  obtain ⟨fs, hr, hrun, hended, hW, hsame⟩ := X171.leave (v := none) (fun _ => rfl)
  refine ⟨_, _, pre0 _ ?_, hrun, hended, _, _, rfl, ?_, ⟨_, rfl⟩, hW, hsame.mono (by decide) (by decide)⟩
  · show Steps p.tables e below (s₁.setTop (mkF m 0 #[.val (.int (Int32.ofNat i)), .val (.ref o1)] [])) _
    refine XS.iloadN X0.here hx rfl (hb hby d25_0) rfl ?_
    show Steps p.tables e below (s₁.setTop (mkF m 1 #[.val (.int (Int32.ofNat i)), .val (.ref o1)] [(.int (Int32.ofNat i))])) _
    refine XS.aloadN X0.here hx rfl (hb hby d25_1) rfl rfl ?_
    show Steps p.tables e below (s₁.setTop (mkF m 2 #[.val (.int (Int32.ofNat i)), .val (.ref o1)] [(.ref o1), (.int (Int32.ofNat i))])) _
    refine st170 _ ?_
    show Steps p.tables e below (T170.setTop (mkF m 5 #[.val (.int (Int32.ofNat i)), .val (.ref o1)] [(.int (Int32.ofNat cs.length)), (.int (Int32.ofNat i))])) _
    refine st171 _ ?_
    show Steps p.tables e below (T171.setTop (mkF m 8 #[.val (.int (Int32.ofNat i)), .val (.ref o1)] [])) _
    exact X171.returnOut hx Bd.returns (hb hby d25_8) hr
  · show QrmUci Z o1 i kb cs fm h0 n0 _ T171.heap _
    rw [e171]
    exact ⟨rfl, N171, rfl⟩
theorem d24_0 : decode jdk_52_method_83_code 0 = .ok (.iload_n 1, 1) := by decide +kernel
theorem d24_1 : decode jdk_52_method_83_code 1 = .ok (.aload_n 0, 1) := by decide +kernel
theorem d24_2 : decode jdk_52_method_83_code 2 = .ok (.invokestatic 67, 3) := by decide +kernel
theorem pd_10 : parseMethodDescriptor "(I[B)V" = some ⟨[.int, (.array .byte)], none⟩ := by decide +kernel
theorem d24_5 : decode jdk_52_method_83_code 5 = .ok (.aload_n 0, 1) := by decide +kernel
theorem d24_6 : decode jdk_52_method_83_code 6 = .ok (.iload_n 1, 1) := by decide +kernel
theorem d24_7 : decode jdk_52_method_83_code 7 = .ok (.invokestatic 71, 3) := by decide +kernel
theorem d24_10 : decode jdk_52_method_83_code 10 = .ok (.ireturn, 1) := by decide +kernel
theorem ef_rmUca (m : MethodId) (o0 : Addr) (i : Nat) : entryFrame m #[(.ref o0), (.int (Int32.ofNat i))] 2 = mkF m 0 #[.val (.ref o0), .val (.int (Int32.ofNat i))] [] := by first | (simp [entryFrame, mkF, argsToLocals, Value.category]; done) | rfl
def QrmUca (Z : State) (o0 : Addr) (i : Nat) (kb : ClassId) (cs : List Int32) (fm : Value) (h0 : Heap) (n0 : Nat) (v : Option Value) (h : Heap) (L : List Loc) : Prop := v = some (.int (cs.getD i 0)) ∧ Fr n0 L ∧ h = h0
set_option maxRecDepth 65536 in
set_option maxHeartbeats 40000000 in
theorem rmUca (l : Launch) (Z : State) (a0 : Array Value) (hw : ∀ d ∈ tables_1, d.before a0 Z = true) (ws : List Jvm.Cond) (o0 : Addr) (i : Nat) (kb : ClassId) (cs : List Int32) (fm : Value) (h0 : Heap) (n0 : Nat) (Z0 : n0 ≤ h0.size) (H0 : Sta Z h0 "java/lang/StringUTF16" "$assertionsDisabled" "Z" (.int (1 : Int32))) (H1 : Sta Z h0 "java/lang/StringUTF16" "HI_BYTE_SHIFT" "I" (.int (0 : Int32))) (H2 : Sta Z h0 "java/lang/StringUTF16" "LO_BYTE_SHIFT" "I" (.int (8 : Int32))) (H3 : Sta Z h0 "jdk/internal/util/Preconditions" "SIOOBE_FORMATTER" "Ljava/util/function/BiFunction;" fm) (rf : fm.isRef = true) (H5 : Arv Z h0 o0 kb .byte (Int32.ofNat (2 * cs.length)) (wideBytes cs) (.int (0 : Int32))) (hi : i < cs.length) (hn : cs.length ≤ 1000) (hbd : own_bd cs) :
    MetFree l (⟨"java/lang/StringUTF16", "charAt", "([BI)C"⟩ : MethodName) (head1 (Jvm.Cond.code (⟨"java/lang/StringUTF16", "charAt", "([BI)C"⟩ : MethodName) jdk_52_method_83_code 2 (some .char) :: ws) ({ frames := 3, cells := 0, slots := 0, locals := 40 } : Room)) (fun a U => a = #[(.ref o0), (.int (Int32.ofNat i))] ∧ Z.Warmed39 U.vm ∧ U.heap = h0) (fun _ _ _ _ _ => True) (fun _ U o U' => ∃ v L, o = .returned v ∧ QrmUca Z o0 i kb cs fm h0 n0 v U'.heap L ∧ FrameEnd U o U' L ({ frames := 3, cells := 0, slots := 0, locals := 40 } : Room).cells ({ frames := 3, cells := 0, slots := 0, locals := 40 } : Room).slots) := by
  refine MetFree.of_bodySF (plainFor_of_name pn_22) hisR ?_
  intro p e s m args below meth c s₁ Bd hml0 hP hK
  obtain ⟨rfl, hZ, hh⟩ := hP
  have hx := Bd.exec
  have hby := Bd.bytes
  have hml : c.maxLocals = 2 := hml0
  have hown : s.vm.findClass "java/lang/StringUTF16" = some m.cls := findClass_of_methodNamed Bd.named
  have hnm := (name_of_methodNamed Bd.named Bd.method).1
  have X0 : Stand p l e ({ frames := 3, cells := 0, slots := 0, locals := 40 } : Room) s m #[(.ref o0), (.int (Int32.ofNat i))] below meth c s₁ [] 0 0 := Stand.of_body Bd
  have e0 : s₁.heap = h0 := by rw [← hh, Bd.state]; rfl
  have N0 := Fr.nil n0
  have pre0 : ∀ t, Steps p.tables e below (s₁.setTop (mkF m 0 #[.val (.ref o0), .val (.int (Int32.ofNat i))] [])) t → Steps p.tables e below (s₁.setTop (entryFrame m #[(.ref o0), (.int (Int32.ofNat i))] 2)) t := fun t k => castTop (ef_rmUca m o0 i) k
  have z172 : @LT.lt Nat _ o0 (Array.size h0) := H5.lt
  have KC0 : Keep h0 h0 [] := Keep.refl _ _
  obtain ⟨_, _, ⟨T173, L173, k173, n173⟩, -, X173, ⟨Lc173, hQ173, l173, y173, z173⟩, st173⟩ := Jvm.LawKit.callS X0 hx (y := (⟨"java/lang/StringUTF16", "checkIndex", "(I[B)V"⟩ : MethodName)) hown (mvT hZ (hw _ (List.mem_of_getElem? (i := 110) rfl))) (mvT hZ (hw _ (List.mem_of_getElem? (i := 111) rfl))) (mvT hZ (hw _ (List.mem_of_getElem? (i := 80) rfl))) (mvT hZ (hw _ (List.mem_of_getElem? (i := 112) rfl))) (by decide) (backOf (W := 0) (rmUci l Z a0 hw [] o0 i kb cs fm h0 n0 (by omega) H3 (rf : fm.isRef = true) H5 (hi : i < cs.length) (hn : cs.length ≤ 1000)) hZ (hw _ (List.mem_of_getElem? (i := 112) rfl)) (hw _ (List.mem_of_getElem? (i := 80) rfl)) (by decide) (by decide)) (g := (mkF m 2 #[.val (.ref o0), .val (.int (Int32.ofNat i))] [(.ref o0), (.int (Int32.ofNat i))])) rfl (by rw [hml]; rfl) (argsL := [(.int (Int32.ofNat i)), (.ref o0)]) (rest := []) (lenOf pd_10 rfl) rfl (by show 2 * 0 + _ ≤ _; exact Nat.le_of_eq rfl) (hb hby d24_2) (fun _ _ => ⟨rfl, e0, (by decide : 0 + 0 ≤ _), (by decide : 0 + 0 ≤ _)⟩)
  dsimp only [Pt.U, Pt.locs, Pt.cells, Pt.slots] at X173 l173 y173 z173 st173 hQ173
  subst l173 y173 z173
  obtain ⟨rfl, N173q, e173⟩ := hQ173
  have N173 := Fr.app N0 N173q
  obtain ⟨_, _, ⟨T174, L174, k174, n174⟩, -, X174, ⟨Lc174, hQ174, l174, y174, z174⟩, st174⟩ := Jvm.LawKit.callS X173 hx (y := (⟨"java/lang/StringUTF16", "getChar", "([BI)C"⟩ : MethodName)) hown (mvT hZ (hw _ (List.mem_of_getElem? (i := 104) rfl))) (mvT hZ (hw _ (List.mem_of_getElem? (i := 105) rfl))) (mvT hZ (hw _ (List.mem_of_getElem? (i := 80) rfl))) (mvT hZ (hw _ (List.mem_of_getElem? (i := 106) rfl))) (by decide) (backOf (W := 0) (rmGet l Z a0 hw [] o0 i kb cs h0 n0 (by omega) H0 H1 H2 H5 (hi : i < cs.length) (hn : cs.length ≤ 1000) ((own_bdg hbd hi) : ¬ ((cs.getD i 0) < 0) ∧ ¬ ((65535 : Int32) < (cs.getD i 0)))) hZ (hw _ (List.mem_of_getElem? (i := 106) rfl)) (hw _ (List.mem_of_getElem? (i := 80) rfl)) (by decide) (by decide)) (g := (mkF m 7 #[.val (.ref o0), .val (.int (Int32.ofNat i))] [(.int (Int32.ofNat i)), (.ref o0)])) rfl (by rw [hml]; rfl) (argsL := [(.ref o0), (.int (Int32.ofNat i))]) (rest := []) (lenOf pd_5 rfl) rfl (by show 2 * 0 + _ ≤ _; exact Nat.le_of_eq rfl) (hb hby d24_7) (fun _ _ => ⟨rfl, e173, (by decide : 0 + 0 ≤ _), (by decide : 0 + 0 ≤ _)⟩)
  dsimp only [Pt.U, Pt.locs, Pt.cells, Pt.slots] at X174 l174 y174 z174 st174 hQ174
  subst l174 y174 z174
  obtain ⟨rfl, N174q, e174⟩ := hQ174
  have N174 := Fr.app N173 N174q
  obtain ⟨fs, hr, hrun, hended, hW, hsame⟩ := X174.leave (v := some (.int (nar .char (cs.getD i 0)))) (fun h => by rw [Bd.returns] at h; cases h)
  refine ⟨_, _, pre0 _ ?_, hrun, hended, _, _, rfl, ?_, ⟨_, rfl⟩, hW, hsame.mono (by decide) (by decide)⟩
  · show Steps p.tables e below (s₁.setTop (mkF m 0 #[.val (.ref o0), .val (.int (Int32.ofNat i))] [])) _
    refine XS.iloadN X0.here hx rfl (hb hby d24_0) rfl ?_
    show Steps p.tables e below (s₁.setTop (mkF m 1 #[.val (.ref o0), .val (.int (Int32.ofNat i))] [(.int (Int32.ofNat i))])) _
    refine XS.aloadN X0.here hx rfl (hb hby d24_1) rfl rfl ?_
    show Steps p.tables e below (s₁.setTop (mkF m 2 #[.val (.ref o0), .val (.int (Int32.ofNat i))] [(.ref o0), (.int (Int32.ofNat i))])) _
    refine st173 _ ?_
    show Steps p.tables e below (T173.setTop (mkF m 5 #[.val (.ref o0), .val (.int (Int32.ofNat i))] [])) _
    refine XS.aloadN X173.here hx rfl (hb hby d24_5) rfl rfl ?_
    show Steps p.tables e below (T173.setTop (mkF m 6 #[.val (.ref o0), .val (.int (Int32.ofNat i))] [(.ref o0)])) _
    refine XS.iloadN X173.here hx rfl (hb hby d24_6) rfl ?_
    show Steps p.tables e below (T173.setTop (mkF m 7 #[.val (.ref o0), .val (.int (Int32.ofNat i))] [(.int (Int32.ofNat i)), (.ref o0)])) _
    refine st174 _ ?_
    show Steps p.tables e below (T174.setTop (mkF m 10 #[.val (.ref o0), .val (.int (Int32.ofNat i))] [(.int (cs.getD i 0))])) _
    exact retN X174 hx (t := .char) Bd.returns (by simp) (hb hby d24_10) hr
  · show QrmUca Z o0 i kb cs fm h0 n0 _ T174.heap _
    rw [e174]
    exact ⟨(congrArg (fun x => some (Value.int x)) (own_narw _ (own_bdg hbd hi))), N174, rfl⟩
theorem own_cod0 {cs : List Int32} {z : Int32} {M : Nat} {bs : List Value} (h : own_cod cs z M bs) (k : z = 0) : M = cs.length ∧ bs = cs.map (fun c => Value.int (lo8 c)) ∧ ∀ c ∈ cs, ¬ (255 : Int32) < c := by
  rcases h with h | h
  · exact h.2
  · exact absurd (h.1.symm.trans k) (by decide)
theorem own_cod1 {cs : List Int32} {z : Int32} {M : Nat} {bs : List Value} (h : own_cod cs z M bs) (k : ¬ z = 0) : M = 2 * cs.length ∧ bs = wideBytes cs ∧ 0 < cs.length := by
  rcases h with h | h
  · exact absurd h.1 k
  · exact h.2
theorem d8_0 : decode jdk_42_method_56_code 0 = .ok (.aload_n 0, 1) := by decide +kernel
theorem d8_1 : decode jdk_42_method_56_code 1 = .ok (.invokevirtual 492, 3) := by decide +kernel
theorem pd_11 : parseMethodDescriptor "()Z" = some ⟨[], some .boolean⟩ := by decide +kernel
theorem d8_4 : decode jdk_42_method_56_code 4 = .ok (.ifCond .eq 12, 3) := by decide +kernel
theorem d8_7 : decode jdk_42_method_56_code 7 = .ok (.aload_n 0, 1) := by decide +kernel
theorem d8_8 : decode jdk_42_method_56_code 8 = .ok (.getfield 9, 3) := by decide +kernel
theorem d8_11 : decode jdk_42_method_56_code 11 = .ok (.iload_n 1, 1) := by decide +kernel
theorem d8_12 : decode jdk_42_method_56_code 12 = .ok (.invokestatic 495, 3) := by decide +kernel
theorem d8_15 : decode jdk_42_method_56_code 15 = .ok (.ireturn, 1) := by decide +kernel
theorem d8_16 : decode jdk_42_method_56_code 16 = .ok (.aload_n 0, 1) := by decide +kernel
theorem d8_17 : decode jdk_42_method_56_code 17 = .ok (.getfield 9, 3) := by decide +kernel
theorem d8_20 : decode jdk_42_method_56_code 20 = .ok (.iload_n 1, 1) := by decide +kernel
theorem d8_21 : decode jdk_42_method_56_code 21 = .ok (.invokestatic 498, 3) := by decide +kernel
theorem d8_24 : decode jdk_42_method_56_code 24 = .ok (.ireturn, 1) := by decide +kernel
theorem ef_rmCat (m : MethodId) (o0 : Addr) (i : Nat) : entryFrame m #[(.ref o0), (.int (Int32.ofNat i))] 2 = mkF m 0 #[.val (.ref o0), .val (.int (Int32.ofNat i))] [] := by first | (simp [entryFrame, mkF, argsToLocals, Value.category]; done) | rfl
def QrmCat (Z : State) (o0 : Addr) (i : Nat) (G1 : Int32) (cs : List Int32) (bv : Addr) (kb : ClassId) (z : Int32) (M : Nat) (bs : List Value) (fm : Value) (h0 : Heap) (n0 : Nat) (v : Option Value) (h : Heap) (L : List Loc) : Prop := v = some (.int (cs.getD i 0)) ∧ Fr n0 L ∧ h = h0
set_option maxRecDepth 65536 in
set_option maxHeartbeats 40000000 in
theorem rmCat (l : Launch) (Z : State) (a0 : Array Value) (hw : ∀ d ∈ tables_1, d.before a0 Z = true) (ws : List Jvm.Cond) (o0 : Addr) (i : Nat) (G1 : Int32) (cs : List Int32) (bv : Addr) (kb : ClassId) (z : Int32) (M : Nat) (bs : List Value) (fm : Value) (h0 : Heap) (n0 : Nat) (Z0 : n0 ≤ h0.size) (H0 : Sta Z h0 "java/lang/StringUTF16" "$assertionsDisabled" "Z" (.int (1 : Int32))) (H1 : Sta Z h0 "java/lang/StringUTF16" "HI_BYTE_SHIFT" "I" (.int (0 : Int32))) (H2 : Sta Z h0 "java/lang/StringUTF16" "LO_BYTE_SHIFT" "I" (.int (8 : Int32))) (H3 : Sta Z h0 "java/lang/String" "COMPACT_STRINGS" "Z" (.int G1)) (hG1 : ¬ (G1 = (0 : Int32))) (H5 : Sta Z h0 "jdk/internal/util/Preconditions" "SIOOBE_FORMATTER" "Ljava/util/function/BiFunction;" fm) (rf : fm.isRef = true) (H7 : Exa Z h0 o0 "java/lang/String") (H8 : Fld Z h0 o0 "java/lang/String" "value" "[B" (.ref bv)) (H9 : Fld Z h0 o0 "java/lang/String" "coder" "B" (.int z)) (H10 : Arv Z h0 bv kb .byte (Int32.ofNat M) bs (.int (0 : Int32))) (cd : own_cod cs z M bs) (hn : cs.length ≤ 1000) (hbd : own_bd cs) (hi : i < cs.length) :
    MetFree l (⟨"java/lang/String", "charAt", "(I)C"⟩ : MethodName) (head1 (Jvm.Cond.code (⟨"java/lang/String", "charAt", "(I)C"⟩ : MethodName) jdk_42_method_56_code 2 (some .char) :: ws) ({ frames := 4, cells := 0, slots := 0, locals := 53 } : Room)) (fun a U => a = #[(.ref o0), (.int (Int32.ofNat i))] ∧ Z.Warmed39 U.vm ∧ U.heap = h0) (fun _ _ _ _ _ => True) (fun _ U o U' => ∃ v L, o = .returned v ∧ QrmCat Z o0 i G1 cs bv kb z M bs fm h0 n0 v U'.heap L ∧ FrameEnd U o U' L ({ frames := 4, cells := 0, slots := 0, locals := 53 } : Room).cells ({ frames := 4, cells := 0, slots := 0, locals := 53 } : Room).slots) := by
  refine MetFree.of_bodySF (plainFor_of_name pn_5) hisR ?_
  intro p e s m args below meth c s₁ Bd hml0 hP hK
  obtain ⟨rfl, hZ, hh⟩ := hP
  have hx := Bd.exec
  have hby := Bd.bytes
  have hml : c.maxLocals = 2 := hml0
  have hown : s.vm.findClass "java/lang/String" = some m.cls := findClass_of_methodNamed Bd.named
  have hnm := (name_of_methodNamed Bd.named Bd.method).1
  have X0 : Stand p l e ({ frames := 4, cells := 0, slots := 0, locals := 53 } : Room) s m #[(.ref o0), (.int (Int32.ofNat i))] below meth c s₁ [] 0 0 := Stand.of_body Bd
  have e0 : s₁.heap = h0 := by rw [← hh, Bd.state]; rfl
  have N0 := Fr.nil n0
  have pre0 : ∀ t, Steps p.tables e below (s₁.setTop (mkF m 0 #[.val (.ref o0), .val (.int (Int32.ofNat i))] [])) t → Steps p.tables e below (s₁.setTop (entryFrame m #[(.ref o0), (.int (Int32.ofNat i))] 2)) t := fun t k => castTop (ef_rmCat m o0 i) k
  have z175 : @LT.lt Nat _ o0 (Array.size h0) := H7.lt
  have z176 : @LT.lt Nat _ o0 (Array.size h0) := H8.lt
  have z177 : @LT.lt Nat _ o0 (Array.size h0) := H9.lt
  have z178 : @LT.lt Nat _ bv (Array.size h0) := H10.lt
  have KC0 : Keep h0 h0 [] := Keep.refl _ _
  obtain ⟨cq179, kq179, qa179, qb179, qc179⟩ := isOf hZ e0 H7
  obtain ⟨_, _, ⟨T179, L179, k179, n179⟩, -, X179, ⟨Lc179, hQ179, l179, y179, z179⟩, st179⟩ := X0.virtualBack hx (y := (⟨"java/lang/String", "isLatin1", "()Z"⟩ : MethodName)) (z := (⟨"java/lang/String", "isLatin1", "()Z"⟩ : MethodName)) hown (mvT hZ (hw _ (List.mem_of_getElem? (i := 51) rfl))) (mvT hZ (hw _ (List.mem_of_getElem? (i := 52) rfl))) (notFace_of_selects (args := #[]) (mvT hZ (hw _ (List.mem_of_getElem? (i := 54) rfl)))) (mvT hZ (hw _ (List.mem_of_getElem? (i := 54) rfl))) (mvT hZ (hw _ (List.mem_of_getElem? (i := 53) rfl))) (by decide) (backOf (W := 0) (rmLat l Z a0 hw [] o0 G1 cs bv kb z M bs h0 n0 (by omega) H3 (hG1 : ¬ (G1 = (0 : Int32))) H7 H8 H9 H10 (cd : own_cod cs z M bs) (hn : cs.length ≤ 1000) (hbd : own_bd cs)) hZ (hw _ (List.mem_of_getElem? (i := 55) rfl)) (hw _ (List.mem_of_getElem? (i := 4) rfl)) (by decide) (by decide)) qa179 qc179 (g := (mkF m 1 #[.val (.ref o0), .val (.int (Int32.ofNat i))] [(.ref o0)])) rfl (by rw [hml]; rfl) (Steps.refl _) (argsL := []) (rest := []) (lenOf pd_11 rfl) rfl (by show 2 * 0 + _ ≤ _; exact Nat.le_of_eq rfl) (hb hby d8_1) (fun _ _ => ⟨rfl, e0, (by decide : 0 + 0 ≤ _), (by decide : 0 + 0 ≤ _)⟩)
  dsimp only [Pt.U, Pt.locs, Pt.cells, Pt.slots] at X179 l179 y179 z179 st179 hQ179
  subst l179 y179 z179
  obtain ⟨rfl, N179q, e179⟩ := hQ179
  have N179 := Fr.app N0 N179q
  have pre180 : ∀ t, Steps p.tables e below (T179.setTop (mkF m 4 #[.val (.ref o0), .val (.int (Int32.ofNat i))] [(.int (bi (z = (0 : Int32))))])) t → Steps p.tables e below (s₁.setTop (entryFrame m #[(.ref o0), (.int (Int32.ofNat i))] 2)) t := fun t k => by
    refine pre0 _ ?_
    show Steps p.tables e below (s₁.setTop (mkF m 0 #[.val (.ref o0), .val (.int (Int32.ofNat i))] [])) _
    refine XS.aloadN X0.here hx rfl (hb hby d8_0) rfl rfl ?_
    show Steps p.tables e below (s₁.setTop (mkF m 1 #[.val (.ref o0), .val (.int (Int32.ofNat i))] [(.ref o0)])) _
    refine st179.trans ?_
    exact k
  by_cases hc181 : z = (0 : Int32)
  · obtain ⟨hM, hB, hL⟩ := own_cod0 cd hc181
    have Vq182 : Arv Z h0 bv kb .byte (Int32.ofNat cs.length) (cs.map (fun c => Value.int (lo8 c))) (.int (0 : Int32)) := by have k := H10; rw [hM, hB] at k; exact k
    obtain ⟨T183, X183, e183, st183⟩ := getF X179 hx hZ hown (host := "") (Or.inl (hw _ (List.mem_of_getElem? (i := 21) rfl))) Via.refl e179 H8 (g := (mkF m 8 #[.val (.ref o0), .val (.int (Int32.ofNat i))] [(.ref o0)])) rfl rfl (hb hby d8_8)
    obtain ⟨_, _, ⟨T184, L184, k184, n184⟩, -, X184, ⟨Lc184, hQ184, l184, y184, z184⟩, st184⟩ := Jvm.LawKit.callS X183 hx (y := (⟨"java/lang/StringLatin1", "charAt", "([BI)C"⟩ : MethodName)) hown (mvT hZ (hw _ (List.mem_of_getElem? (i := 56) rfl))) (mvT hZ (hw _ (List.mem_of_getElem? (i := 57) rfl))) (mvT hZ (hw _ (List.mem_of_getElem? (i := 58) rfl))) (mvT hZ (hw _ (List.mem_of_getElem? (i := 59) rfl))) (by decide) (backOf (W := 0) (rmLca l Z a0 hw [] bv i kb cs fm h0 n0 (by omega) H5 (rf : fm.isRef = true) Vq182 (hi : i < cs.length) (hn : cs.length ≤ 1000) (hbd : own_bd cs) (hL : ∀ c ∈ cs, ¬ (255 : Int32) < c)) hZ (hw _ (List.mem_of_getElem? (i := 59) rfl)) (hw _ (List.mem_of_getElem? (i := 58) rfl)) (by decide) (by decide)) (g := (mkF m 12 #[.val (.ref o0), .val (.int (Int32.ofNat i))] [(.int (Int32.ofNat i)), (.ref bv)])) rfl (by rw [hml]; rfl) (argsL := [(.ref bv), (.int (Int32.ofNat i))]) (rest := []) (lenOf pd_5 rfl) rfl (by show 2 * 0 + _ ≤ _; exact Nat.le_of_eq rfl) (hb hby d8_12) (fun _ _ => ⟨rfl, e183, (by decide : 0 + 0 ≤ _), (by decide : 0 + 0 ≤ _)⟩)
    dsimp only [Pt.U, Pt.locs, Pt.cells, Pt.slots] at X184 l184 y184 z184 st184 hQ184
    subst l184 y184 z184
    obtain ⟨rfl, N184q, e184⟩ := hQ184
    have N184 := Fr.app N179 N184q
    obtain ⟨fs, hr, hrun, hended, hW, hsame⟩ := X184.leave (v := some (.int (nar .char (cs.getD i 0)))) (fun h => by rw [Bd.returns] at h; cases h)
    refine ⟨_, _, pre180 _ ?_, hrun, hended, _, _, rfl, ?_, ⟨_, rfl⟩, hW, hsame.mono (by decide) (by decide)⟩
    · show Steps p.tables e below (T179.setTop (mkF m 4 #[.val (.ref o0), .val (.int (Int32.ofNat i))] [(.int (bi (z = (0 : Int32))))])) _
      refine XS.ifNo X179.here hx rfl (hb hby d8_4) rfl ((if0 _ _).trans (feq ((bi_n hc181) : ¬ ((bi (z = (0 : Int32))) = (0 : Int32)))).1) ?_
      show Steps p.tables e below (T179.setTop (mkF m 7 #[.val (.ref o0), .val (.int (Int32.ofNat i))] [])) _
      refine XS.aloadN X179.here hx rfl (hb hby d8_7) rfl rfl ?_
      show Steps p.tables e below (T179.setTop (mkF m 8 #[.val (.ref o0), .val (.int (Int32.ofNat i))] [(.ref o0)])) _
      refine st183 _ ?_
      show Steps p.tables e below (T183.setTop (mkF m 11 #[.val (.ref o0), .val (.int (Int32.ofNat i))] [(.ref bv)])) _
      refine XS.iloadN X183.here hx rfl (hb hby d8_11) rfl ?_
      show Steps p.tables e below (T183.setTop (mkF m 12 #[.val (.ref o0), .val (.int (Int32.ofNat i))] [(.int (Int32.ofNat i)), (.ref bv)])) _
      refine st184 _ ?_
      show Steps p.tables e below (T184.setTop (mkF m 15 #[.val (.ref o0), .val (.int (Int32.ofNat i))] [(.int (cs.getD i 0))])) _
      exact retN X184 hx (t := .char) Bd.returns (by simp) (hb hby d8_15) hr
    · show QrmCat Z o0 i G1 cs bv kb z M bs fm h0 n0 _ T184.heap _
      rw [e184]
      exact ⟨(congrArg (fun x => some (Value.int x)) (own_narw _ (own_bdg hbd hi))), N184, rfl⟩
  · obtain ⟨hM, hB, hL⟩ := own_cod1 cd hc181
    have Vq185 : Arv Z h0 bv kb .byte (Int32.ofNat (2 * cs.length)) (wideBytes cs) (.int (0 : Int32)) := by have k := H10; rw [hM, hB] at k; exact k
    obtain ⟨T186, X186, e186, st186⟩ := getF X179 hx hZ hown (host := "") (Or.inl (hw _ (List.mem_of_getElem? (i := 21) rfl))) Via.refl e179 H8 (g := (mkF m 17 #[.val (.ref o0), .val (.int (Int32.ofNat i))] [(.ref o0)])) rfl rfl (hb hby d8_17)
    obtain ⟨_, _, ⟨T187, L187, k187, n187⟩, -, X187, ⟨Lc187, hQ187, l187, y187, z187⟩, st187⟩ := Jvm.LawKit.callS X186 hx (y := (⟨"java/lang/StringUTF16", "charAt", "([BI)C"⟩ : MethodName)) hown (mvT hZ (hw _ (List.mem_of_getElem? (i := 107) rfl))) (mvT hZ (hw _ (List.mem_of_getElem? (i := 108) rfl))) (mvT hZ (hw _ (List.mem_of_getElem? (i := 80) rfl))) (mvT hZ (hw _ (List.mem_of_getElem? (i := 109) rfl))) (by decide) (backOf (W := 0) (rmUca l Z a0 hw [] bv i kb cs fm h0 n0 (by omega) H0 H1 H2 H5 (rf : fm.isRef = true) Vq185 (hi : i < cs.length) (hn : cs.length ≤ 1000) (hbd : own_bd cs)) hZ (hw _ (List.mem_of_getElem? (i := 109) rfl)) (hw _ (List.mem_of_getElem? (i := 80) rfl)) (by decide) (by decide)) (g := (mkF m 21 #[.val (.ref o0), .val (.int (Int32.ofNat i))] [(.int (Int32.ofNat i)), (.ref bv)])) rfl (by rw [hml]; rfl) (argsL := [(.ref bv), (.int (Int32.ofNat i))]) (rest := []) (lenOf pd_5 rfl) rfl (by show 2 * 0 + _ ≤ _; exact Nat.le_of_eq rfl) (hb hby d8_21) (fun _ _ => ⟨rfl, e186, (by decide : 0 + 0 ≤ _), (by decide : 0 + 0 ≤ _)⟩)
    dsimp only [Pt.U, Pt.locs, Pt.cells, Pt.slots] at X187 l187 y187 z187 st187 hQ187
    subst l187 y187 z187
    obtain ⟨rfl, N187q, e187⟩ := hQ187
    have N187 := Fr.app N179 N187q
    obtain ⟨fs, hr, hrun, hended, hW, hsame⟩ := X187.leave (v := some (.int (nar .char (cs.getD i 0)))) (fun h => by rw [Bd.returns] at h; cases h)
    refine ⟨_, _, pre180 _ ?_, hrun, hended, _, _, rfl, ?_, ⟨_, rfl⟩, hW, hsame.mono (by decide) (by decide)⟩
    · show Steps p.tables e below (T179.setTop (mkF m 4 #[.val (.ref o0), .val (.int (Int32.ofNat i))] [(.int (bi (z = (0 : Int32))))])) _
      refine XS.ifYes X179.here hx rfl (pc0 := 4) (pc' := 16) rfl (hb hby d8_4) rfl ((if0 _ _).trans (teq ((bi_f hc181) : (bi (z = (0 : Int32))) = (0 : Int32))).1) (by decide) (by decide) ?_
      show Steps p.tables e below (T179.setTop (mkF m 16 #[.val (.ref o0), .val (.int (Int32.ofNat i))] [])) _
      refine XS.aloadN X179.here hx rfl (hb hby d8_16) rfl rfl ?_
      show Steps p.tables e below (T179.setTop (mkF m 17 #[.val (.ref o0), .val (.int (Int32.ofNat i))] [(.ref o0)])) _
      refine st186 _ ?_
      show Steps p.tables e below (T186.setTop (mkF m 20 #[.val (.ref o0), .val (.int (Int32.ofNat i))] [(.ref bv)])) _
      refine XS.iloadN X186.here hx rfl (hb hby d8_20) rfl ?_
      show Steps p.tables e below (T186.setTop (mkF m 21 #[.val (.ref o0), .val (.int (Int32.ofNat i))] [(.int (Int32.ofNat i)), (.ref bv)])) _
      refine st187 _ ?_
      show Steps p.tables e below (T187.setTop (mkF m 24 #[.val (.ref o0), .val (.int (Int32.ofNat i))] [(.int (cs.getD i 0))])) _
      exact retN X187 hx (t := .char) Bd.returns (by simp) (hb hby d8_24) hr
    · show QrmCat Z o0 i G1 cs bv kb z M bs fm h0 n0 _ T187.heap _
      rw [e187]
      exact ⟨(congrArg (fun x => some (Value.int x)) (own_narw _ (own_bdg hbd hi))), N187, rfl⟩
theorem own_i65 : (65 : Int32).toInt = 65 := rfl
theorem own_i90 : (90 : Int32).toInt = 90 := rfl
theorem own_i97 : (97 : Int32).toInt = 97 := rfl
theorem own_i122 : (122 : Int32).toInt = 122 := rfl
theorem own_i48 : (48 : Int32).toInt = 48 := rfl
theorem own_i57 : (57 : Int32).toInt = 57 := rfl
theorem own_i46 : (46 : Int32).toInt = 46 := rfl
theorem own_i95 : (95 : Int32).toInt = 95 := rfl
theorem own_i58 : (58 : Int32).toInt = 58 := rfl
theorem own_i45 : (45 : Int32).toInt = 45 := rfl
theorem d13_0 : decode prog_8_method_3_code 0 = .ok (.iload_n 0, 1) := by decide +kernel
theorem d13_1 : decode prog_8_method_3_code 1 = .ok (.bipush 65, 2) := by decide +kernel
theorem d13_3 : decode prog_8_method_3_code 3 = .ok (.if_icmp .lt 9, 3) := by decide +kernel
theorem d13_12 : decode prog_8_method_3_code 12 = .ok (.iload_n 0, 1) := by decide +kernel
theorem d13_13 : decode prog_8_method_3_code 13 = .ok (.bipush 97, 2) := by decide +kernel
theorem d13_15 : decode prog_8_method_3_code 15 = .ok (.if_icmp .lt 9, 3) := by decide +kernel
theorem d13_24 : decode prog_8_method_3_code 24 = .ok (.iload_n 0, 1) := by decide +kernel
theorem d13_25 : decode prog_8_method_3_code 25 = .ok (.bipush 48, 2) := by decide +kernel
theorem d13_27 : decode prog_8_method_3_code 27 = .ok (.if_icmp .lt 9, 3) := by decide +kernel
theorem d13_36 : decode prog_8_method_3_code 36 = .ok (.iload_n 0, 1) := by decide +kernel
theorem d13_37 : decode prog_8_method_3_code 37 = .ok (.bipush 46, 2) := by decide +kernel
theorem d13_39 : decode prog_8_method_3_code 39 = .ok (.if_icmp .eq 21, 3) := by decide +kernel
theorem d13_60 : decode prog_8_method_3_code 60 = .ok (.iconst 1, 1) := by decide +kernel
theorem d13_61 : decode prog_8_method_3_code 61 = .ok (.goto 4, 3) := by decide +kernel
theorem d13_65 : decode prog_8_method_3_code 65 = .ok (.ireturn, 1) := by decide +kernel
theorem d13_42 : decode prog_8_method_3_code 42 = .ok (.iload_n 0, 1) := by decide +kernel
theorem d13_43 : decode prog_8_method_3_code 43 = .ok (.bipush 95, 2) := by decide +kernel
theorem d13_45 : decode prog_8_method_3_code 45 = .ok (.if_icmp .eq 15, 3) := by decide +kernel
theorem d13_48 : decode prog_8_method_3_code 48 = .ok (.iload_n 0, 1) := by decide +kernel
theorem d13_49 : decode prog_8_method_3_code 49 = .ok (.bipush 58, 2) := by decide +kernel
theorem d13_51 : decode prog_8_method_3_code 51 = .ok (.if_icmp .eq 9, 3) := by decide +kernel
theorem d13_54 : decode prog_8_method_3_code 54 = .ok (.iload_n 0, 1) := by decide +kernel
theorem d13_55 : decode prog_8_method_3_code 55 = .ok (.bipush 45, 2) := by decide +kernel
theorem d13_57 : decode prog_8_method_3_code 57 = .ok (.if_icmp .ne 7, 3) := by decide +kernel
theorem d13_64 : decode prog_8_method_3_code 64 = .ok (.iconst 0, 1) := by decide +kernel
theorem d13_30 : decode prog_8_method_3_code 30 = .ok (.iload_n 0, 1) := by decide +kernel
theorem d13_31 : decode prog_8_method_3_code 31 = .ok (.bipush 57, 2) := by decide +kernel
theorem d13_33 : decode prog_8_method_3_code 33 = .ok (.if_icmp .le 27, 3) := by decide +kernel
theorem d13_6 : decode prog_8_method_3_code 6 = .ok (.iload_n 0, 1) := by decide +kernel
theorem d13_7 : decode prog_8_method_3_code 7 = .ok (.bipush 90, 2) := by decide +kernel
theorem d13_9 : decode prog_8_method_3_code 9 = .ok (.if_icmp .le 51, 3) := by decide +kernel
theorem d13_18 : decode prog_8_method_3_code 18 = .ok (.iload_n 0, 1) := by decide +kernel
theorem d13_19 : decode prog_8_method_3_code 19 = .ok (.bipush 122, 2) := by decide +kernel
theorem d13_21 : decode prog_8_method_3_code 21 = .ok (.if_icmp .le 39, 3) := by decide +kernel
theorem pn_13 : plainName "com/example/delay_buckets/delaybuckets/Names" = true := by first | (simp [plainName, overriddenIn]; done) | decide +kernel
theorem ef_rmIsa (m : MethodId) (p0 : Int32) : entryFrame m #[(.int p0)] 1 = mkF m 0 #[.val (.int p0)] [] := by first | (simp [entryFrame, mkF, argsToLocals, Value.category]; done) | rfl
def QrmIsa (Z : State) (p0 : Int32) (h0 : Heap) (n0 : Nat) (v : Option Value) (h : Heap) (L : List Loc) : Prop := v = some (.int (bi (own_ok p0))) ∧ Fr n0 L ∧ h = h0
set_option maxRecDepth 65536 in
set_option maxHeartbeats 40000000 in
theorem rmIsa (l : Launch) (Z : State) (a0 : Array Value) (hw : ∀ d ∈ tables_1, d.before a0 Z = true) (ws : List Jvm.Cond) (p0 : Int32) (h0 : Heap) (n0 : Nat) (Z0 : n0 ≤ h0.size) :
    MetFree l (⟨"com/example/delay_buckets/delaybuckets/Names", "isAllowed", "(C)Z"⟩ : MethodName) (head1 (Jvm.Cond.code (⟨"com/example/delay_buckets/delaybuckets/Names", "isAllowed", "(C)Z"⟩ : MethodName) prog_8_method_3_code 1 (some .boolean) :: ws) ({ frames := 0, cells := 0, slots := 0, locals := 0 } : Room)) (fun a U => a = #[(.int p0)] ∧ Z.Warmed39 U.vm ∧ U.heap = h0) (fun _ _ _ _ _ => True) (fun _ U o U' => ∃ v L, o = .returned v ∧ QrmIsa Z p0 h0 n0 v U'.heap L ∧ FrameEnd U o U' L ({ frames := 0, cells := 0, slots := 0, locals := 0 } : Room).cells ({ frames := 0, cells := 0, slots := 0, locals := 0 } : Room).slots) := by
  refine MetFree.of_bodySF (plainFor_of_name pn_13) hisR ?_
  intro p e s m args below meth c s₁ Bd hml0 hP hK
  obtain ⟨rfl, hZ, hh⟩ := hP
  have hx := Bd.exec
  have hby := Bd.bytes
  have hml : c.maxLocals = 1 := hml0
  have hown : s.vm.findClass "com/example/delay_buckets/delaybuckets/Names" = some m.cls := findClass_of_methodNamed Bd.named
  have hnm := (name_of_methodNamed Bd.named Bd.method).1
  have X0 : Stand p l e ({ frames := 0, cells := 0, slots := 0, locals := 0 } : Room) s m #[(.int p0)] below meth c s₁ [] 0 0 := Stand.of_body Bd
  have e0 : s₁.heap = h0 := by rw [← hh, Bd.state]; rfl
  have N0 := Fr.nil n0
  have pre0 : ∀ t, Steps p.tables e below (s₁.setTop (mkF m 0 #[.val (.int p0)] [])) t → Steps p.tables e below (s₁.setTop (entryFrame m #[(.int p0)] 1)) t := fun t k => castTop (ef_rmIsa m p0) k
  have KC0 : Keep h0 h0 [] := Keep.refl _ _
  have pre188 : ∀ t, Steps p.tables e below (s₁.setTop (mkF m 3 #[.val (.int p0)] [(.int (65 : Int32)), (.int p0)])) t → Steps p.tables e below (s₁.setTop (entryFrame m #[(.int p0)] 1)) t := fun t k => by
    refine pre0 _ ?_
    show Steps p.tables e below (s₁.setTop (mkF m 0 #[.val (.int p0)] [])) _
    refine XS.iloadN X0.here hx rfl (hb hby d13_0) rfl ?_
    show Steps p.tables e below (s₁.setTop (mkF m 1 #[.val (.int p0)] [(.int p0)])) _
    refine XS.bipush X0.here hx rfl (hb hby d13_1) ?_
    exact k
  by_cases hc189 : p0 < (65 : Int32)
  · have hd190 : (p0 < (97 : Int32)) := by simp only [Int32.lt_iff_toInt_lt, ← Int32.toInt_inj, own_i65, own_i90, own_i97, own_i122, own_i48, own_i57, own_i46, own_i95, own_i58, own_i45] at hc189 ⊢; omega
    have pre191 : ∀ t, Steps p.tables e below (s₁.setTop (mkF m 27 #[.val (.int p0)] [(.int (48 : Int32)), (.int p0)])) t → Steps p.tables e below (s₁.setTop (entryFrame m #[(.int p0)] 1)) t := fun t k => by
      refine pre188 _ ?_
      show Steps p.tables e below (s₁.setTop (mkF m 3 #[.val (.int p0)] [(.int (65 : Int32)), (.int p0)])) _
      refine XS.icmpYes X0.here hx rfl (pc0 := 3) (pc' := 12) rfl (hb hby d13_3) rfl (tlt (hc189 : p0 < (65 : Int32))).1 (by decide) (by decide) ?_
      show Steps p.tables e below (s₁.setTop (mkF m 12 #[.val (.int p0)] [])) _
      refine XS.iloadN X0.here hx rfl (hb hby d13_12) rfl ?_
      show Steps p.tables e below (s₁.setTop (mkF m 13 #[.val (.int p0)] [(.int p0)])) _
      refine XS.bipush X0.here hx rfl (hb hby d13_13) ?_
      show Steps p.tables e below (s₁.setTop (mkF m 15 #[.val (.int p0)] [(.int (97 : Int32)), (.int p0)])) _
      refine XS.icmpYes X0.here hx rfl (pc0 := 15) (pc' := 24) rfl (hb hby d13_15) rfl (tlt (hd190 : p0 < (97 : Int32))).1 (by decide) (by decide) ?_
      show Steps p.tables e below (s₁.setTop (mkF m 24 #[.val (.int p0)] [])) _
      refine XS.iloadN X0.here hx rfl (hb hby d13_24) rfl ?_
      show Steps p.tables e below (s₁.setTop (mkF m 25 #[.val (.int p0)] [(.int p0)])) _
      refine XS.bipush X0.here hx rfl (hb hby d13_25) ?_
      exact k
    by_cases hc192 : p0 < (48 : Int32)
    · have pre193 : ∀ t, Steps p.tables e below (s₁.setTop (mkF m 39 #[.val (.int p0)] [(.int (46 : Int32)), (.int p0)])) t → Steps p.tables e below (s₁.setTop (entryFrame m #[(.int p0)] 1)) t := fun t k => by
        refine pre191 _ ?_
        show Steps p.tables e below (s₁.setTop (mkF m 27 #[.val (.int p0)] [(.int (48 : Int32)), (.int p0)])) _
        refine XS.icmpYes X0.here hx rfl (pc0 := 27) (pc' := 36) rfl (hb hby d13_27) rfl (tlt (hc192 : p0 < (48 : Int32))).1 (by decide) (by decide) ?_
        show Steps p.tables e below (s₁.setTop (mkF m 36 #[.val (.int p0)] [])) _
        refine XS.iloadN X0.here hx rfl (hb hby d13_36) rfl ?_
        show Steps p.tables e below (s₁.setTop (mkF m 37 #[.val (.int p0)] [(.int p0)])) _
        refine XS.bipush X0.here hx rfl (hb hby d13_37) ?_
        exact k
      by_cases hc194 : p0 = (46 : Int32)
      · obtain ⟨fs, hr, hrun, hended, hW, hsame⟩ := X0.leave (v := some (.int (1 : Int32))) (fun h => by rw [Bd.returns] at h; cases h)
        refine ⟨_, _, pre193 _ ?_, hrun, hended, _, _, rfl, ?_, ⟨_, rfl⟩, hW, hsame.mono (by decide) (by decide)⟩
        · show Steps p.tables e below (s₁.setTop (mkF m 39 #[.val (.int p0)] [(.int (46 : Int32)), (.int p0)])) _
          refine XS.icmpYes X0.here hx rfl (pc0 := 39) (pc' := 60) rfl (hb hby d13_39) rfl (teq (hc194 : p0 = (46 : Int32))).1 (by decide) (by decide) ?_
          show Steps p.tables e below (s₁.setTop (mkF m 60 #[.val (.int p0)] [])) _
          refine XS.iconst X0.here hx rfl (hb hby d13_60) ?_
          show Steps p.tables e below (s₁.setTop (mkF m 61 #[.val (.int p0)] [(.int (1 : Int32))])) _
          refine XS.goto X0.here hx rfl (pc0 := 61) (pc' := 65) rfl (hb hby d13_61) (by decide) (by decide) ?_
          show Steps p.tables e below (s₁.setTop (mkF m 65 #[.val (.int p0)] [(.int (1 : Int32))])) _
          exact retN X0 hx (t := .boolean) Bd.returns (by simp) (hb hby d13_65) hr
        · show QrmIsa Z p0 h0 n0 _ s₁.heap _
          rw [e0]
          exact ⟨(congrArg (fun x => some (Value.int x)) (bi_t (by simp [own_ok, hc189, hd190, hc192, hc194])).symm), N0, rfl⟩
      · have hd195 : ¬ (p0 = (95 : Int32)) := by simp only [Int32.lt_iff_toInt_lt, ← Int32.toInt_inj, own_i65, own_i90, own_i97, own_i122, own_i48, own_i57, own_i46, own_i95, own_i58, own_i45] at hc189 hd190 hc192 ⊢; omega
        have hd196 : ¬ (p0 = (58 : Int32)) := by simp only [Int32.lt_iff_toInt_lt, ← Int32.toInt_inj, own_i65, own_i90, own_i97, own_i122, own_i48, own_i57, own_i46, own_i95, own_i58, own_i45] at hc189 hd190 hc192 ⊢; omega
        have pre197 : ∀ t, Steps p.tables e below (s₁.setTop (mkF m 57 #[.val (.int p0)] [(.int (45 : Int32)), (.int p0)])) t → Steps p.tables e below (s₁.setTop (entryFrame m #[(.int p0)] 1)) t := fun t k => by
          refine pre193 _ ?_
          show Steps p.tables e below (s₁.setTop (mkF m 39 #[.val (.int p0)] [(.int (46 : Int32)), (.int p0)])) _
          refine XS.icmpNo X0.here hx rfl (hb hby d13_39) rfl (feq (hc194 : ¬ (p0 = (46 : Int32)))).1 ?_
          show Steps p.tables e below (s₁.setTop (mkF m 42 #[.val (.int p0)] [])) _
          refine XS.iloadN X0.here hx rfl (hb hby d13_42) rfl ?_
          show Steps p.tables e below (s₁.setTop (mkF m 43 #[.val (.int p0)] [(.int p0)])) _
          refine XS.bipush X0.here hx rfl (hb hby d13_43) ?_
          show Steps p.tables e below (s₁.setTop (mkF m 45 #[.val (.int p0)] [(.int (95 : Int32)), (.int p0)])) _
          refine XS.icmpNo X0.here hx rfl (hb hby d13_45) rfl (feq (hd195 : ¬ (p0 = (95 : Int32)))).1 ?_
          show Steps p.tables e below (s₁.setTop (mkF m 48 #[.val (.int p0)] [])) _
          refine XS.iloadN X0.here hx rfl (hb hby d13_48) rfl ?_
          show Steps p.tables e below (s₁.setTop (mkF m 49 #[.val (.int p0)] [(.int p0)])) _
          refine XS.bipush X0.here hx rfl (hb hby d13_49) ?_
          show Steps p.tables e below (s₁.setTop (mkF m 51 #[.val (.int p0)] [(.int (58 : Int32)), (.int p0)])) _
          refine XS.icmpNo X0.here hx rfl (hb hby d13_51) rfl (feq (hd196 : ¬ (p0 = (58 : Int32)))).1 ?_
          show Steps p.tables e below (s₁.setTop (mkF m 54 #[.val (.int p0)] [])) _
          refine XS.iloadN X0.here hx rfl (hb hby d13_54) rfl ?_
          show Steps p.tables e below (s₁.setTop (mkF m 55 #[.val (.int p0)] [(.int p0)])) _
          refine XS.bipush X0.here hx rfl (hb hby d13_55) ?_
          exact k
        by_cases hc198 : p0 = (45 : Int32)
        · obtain ⟨fs, hr, hrun, hended, hW, hsame⟩ := X0.leave (v := some (.int (1 : Int32))) (fun h => by rw [Bd.returns] at h; cases h)
          refine ⟨_, _, pre197 _ ?_, hrun, hended, _, _, rfl, ?_, ⟨_, rfl⟩, hW, hsame.mono (by decide) (by decide)⟩
          · show Steps p.tables e below (s₁.setTop (mkF m 57 #[.val (.int p0)] [(.int (45 : Int32)), (.int p0)])) _
            refine XS.icmpNo X0.here hx rfl (hb hby d13_57) rfl (teq (hc198 : p0 = (45 : Int32))).2 ?_
            show Steps p.tables e below (s₁.setTop (mkF m 60 #[.val (.int p0)] [])) _
            refine XS.iconst X0.here hx rfl (hb hby d13_60) ?_
            show Steps p.tables e below (s₁.setTop (mkF m 61 #[.val (.int p0)] [(.int (1 : Int32))])) _
            refine XS.goto X0.here hx rfl (pc0 := 61) (pc' := 65) rfl (hb hby d13_61) (by decide) (by decide) ?_
            show Steps p.tables e below (s₁.setTop (mkF m 65 #[.val (.int p0)] [(.int (1 : Int32))])) _
            exact retN X0 hx (t := .boolean) Bd.returns (by simp) (hb hby d13_65) hr
          · show QrmIsa Z p0 h0 n0 _ s₁.heap _
            rw [e0]
            exact ⟨(congrArg (fun x => some (Value.int x)) (bi_t (by simp [own_ok, hc189, hd190, hc192, hc194, hd195, hd196, hc198])).symm), N0, rfl⟩
        · obtain ⟨fs, hr, hrun, hended, hW, hsame⟩ := X0.leave (v := some (.int (0 : Int32))) (fun h => by rw [Bd.returns] at h; cases h)
          refine ⟨_, _, pre197 _ ?_, hrun, hended, _, _, rfl, ?_, ⟨_, rfl⟩, hW, hsame.mono (by decide) (by decide)⟩
          · show Steps p.tables e below (s₁.setTop (mkF m 57 #[.val (.int p0)] [(.int (45 : Int32)), (.int p0)])) _
            refine XS.icmpYes X0.here hx rfl (pc0 := 57) (pc' := 64) rfl (hb hby d13_57) rfl (feq (hc198 : ¬ (p0 = (45 : Int32)))).2 (by decide) (by decide) ?_
            show Steps p.tables e below (s₁.setTop (mkF m 64 #[.val (.int p0)] [])) _
            refine XS.iconst X0.here hx rfl (hb hby d13_64) ?_
            show Steps p.tables e below (s₁.setTop (mkF m 65 #[.val (.int p0)] [(.int (0 : Int32))])) _
            exact retN X0 hx (t := .boolean) Bd.returns (by simp) (hb hby d13_65) hr
          · show QrmIsa Z p0 h0 n0 _ s₁.heap _
            rw [e0]
            exact ⟨(congrArg (fun x => some (Value.int x)) (bi_f (by simp [own_ok, hc189, hd190, hc192, hc194, hd195, hd196, hc198])).symm), N0, rfl⟩
    · have pre199 : ∀ t, Steps p.tables e below (s₁.setTop (mkF m 33 #[.val (.int p0)] [(.int (57 : Int32)), (.int p0)])) t → Steps p.tables e below (s₁.setTop (entryFrame m #[(.int p0)] 1)) t := fun t k => by
        refine pre191 _ ?_
        show Steps p.tables e below (s₁.setTop (mkF m 27 #[.val (.int p0)] [(.int (48 : Int32)), (.int p0)])) _
        refine XS.icmpNo X0.here hx rfl (hb hby d13_27) rfl (flt (hc192 : ¬ (p0 < (48 : Int32)))).1 ?_
        show Steps p.tables e below (s₁.setTop (mkF m 30 #[.val (.int p0)] [])) _
        refine XS.iloadN X0.here hx rfl (hb hby d13_30) rfl ?_
        show Steps p.tables e below (s₁.setTop (mkF m 31 #[.val (.int p0)] [(.int p0)])) _
        refine XS.bipush X0.here hx rfl (hb hby d13_31) ?_
        exact k
      by_cases hc200 : (57 : Int32) < p0
      · have hd201 : ¬ (p0 = (46 : Int32)) := by simp only [Int32.lt_iff_toInt_lt, ← Int32.toInt_inj, own_i65, own_i90, own_i97, own_i122, own_i48, own_i57, own_i46, own_i95, own_i58, own_i45] at hc189 hd190 hc192 hc200 ⊢; omega
        have hd202 : ¬ (p0 = (95 : Int32)) := by simp only [Int32.lt_iff_toInt_lt, ← Int32.toInt_inj, own_i65, own_i90, own_i97, own_i122, own_i48, own_i57, own_i46, own_i95, own_i58, own_i45] at hc189 hd190 hc192 hc200 ⊢; omega
        have pre203 : ∀ t, Steps p.tables e below (s₁.setTop (mkF m 51 #[.val (.int p0)] [(.int (58 : Int32)), (.int p0)])) t → Steps p.tables e below (s₁.setTop (entryFrame m #[(.int p0)] 1)) t := fun t k => by
          refine pre199 _ ?_
          show Steps p.tables e below (s₁.setTop (mkF m 33 #[.val (.int p0)] [(.int (57 : Int32)), (.int p0)])) _
          refine XS.icmpNo X0.here hx rfl (hb hby d13_33) rfl (tlt (hc200 : (57 : Int32) < p0)).2.2.2 ?_
          show Steps p.tables e below (s₁.setTop (mkF m 36 #[.val (.int p0)] [])) _
          refine XS.iloadN X0.here hx rfl (hb hby d13_36) rfl ?_
          show Steps p.tables e below (s₁.setTop (mkF m 37 #[.val (.int p0)] [(.int p0)])) _
          refine XS.bipush X0.here hx rfl (hb hby d13_37) ?_
          show Steps p.tables e below (s₁.setTop (mkF m 39 #[.val (.int p0)] [(.int (46 : Int32)), (.int p0)])) _
          refine XS.icmpNo X0.here hx rfl (hb hby d13_39) rfl (feq (hd201 : ¬ (p0 = (46 : Int32)))).1 ?_
          show Steps p.tables e below (s₁.setTop (mkF m 42 #[.val (.int p0)] [])) _
          refine XS.iloadN X0.here hx rfl (hb hby d13_42) rfl ?_
          show Steps p.tables e below (s₁.setTop (mkF m 43 #[.val (.int p0)] [(.int p0)])) _
          refine XS.bipush X0.here hx rfl (hb hby d13_43) ?_
          show Steps p.tables e below (s₁.setTop (mkF m 45 #[.val (.int p0)] [(.int (95 : Int32)), (.int p0)])) _
          refine XS.icmpNo X0.here hx rfl (hb hby d13_45) rfl (feq (hd202 : ¬ (p0 = (95 : Int32)))).1 ?_
          show Steps p.tables e below (s₁.setTop (mkF m 48 #[.val (.int p0)] [])) _
          refine XS.iloadN X0.here hx rfl (hb hby d13_48) rfl ?_
          show Steps p.tables e below (s₁.setTop (mkF m 49 #[.val (.int p0)] [(.int p0)])) _
          refine XS.bipush X0.here hx rfl (hb hby d13_49) ?_
          exact k
        by_cases hc204 : p0 = (58 : Int32)
        · obtain ⟨fs, hr, hrun, hended, hW, hsame⟩ := X0.leave (v := some (.int (1 : Int32))) (fun h => by rw [Bd.returns] at h; cases h)
          refine ⟨_, _, pre203 _ ?_, hrun, hended, _, _, rfl, ?_, ⟨_, rfl⟩, hW, hsame.mono (by decide) (by decide)⟩
          · show Steps p.tables e below (s₁.setTop (mkF m 51 #[.val (.int p0)] [(.int (58 : Int32)), (.int p0)])) _
            refine XS.icmpYes X0.here hx rfl (pc0 := 51) (pc' := 60) rfl (hb hby d13_51) rfl (teq (hc204 : p0 = (58 : Int32))).1 (by decide) (by decide) ?_
            show Steps p.tables e below (s₁.setTop (mkF m 60 #[.val (.int p0)] [])) _
            refine XS.iconst X0.here hx rfl (hb hby d13_60) ?_
            show Steps p.tables e below (s₁.setTop (mkF m 61 #[.val (.int p0)] [(.int (1 : Int32))])) _
            refine XS.goto X0.here hx rfl (pc0 := 61) (pc' := 65) rfl (hb hby d13_61) (by decide) (by decide) ?_
            show Steps p.tables e below (s₁.setTop (mkF m 65 #[.val (.int p0)] [(.int (1 : Int32))])) _
            exact retN X0 hx (t := .boolean) Bd.returns (by simp) (hb hby d13_65) hr
          · show QrmIsa Z p0 h0 n0 _ s₁.heap _
            rw [e0]
            exact ⟨(congrArg (fun x => some (Value.int x)) (bi_t (by simp [own_ok, hc189, hd190, hc192, hc200, hd201, hd202, hc204])).symm), N0, rfl⟩
        · have hd205 : ¬ (p0 = (45 : Int32)) := by simp only [Int32.lt_iff_toInt_lt, ← Int32.toInt_inj, own_i65, own_i90, own_i97, own_i122, own_i48, own_i57, own_i46, own_i95, own_i58, own_i45] at hc189 hd190 hc192 hc200 ⊢; omega
          obtain ⟨fs, hr, hrun, hended, hW, hsame⟩ := X0.leave (v := some (.int (0 : Int32))) (fun h => by rw [Bd.returns] at h; cases h)
          refine ⟨_, _, pre203 _ ?_, hrun, hended, _, _, rfl, ?_, ⟨_, rfl⟩, hW, hsame.mono (by decide) (by decide)⟩
          · show Steps p.tables e below (s₁.setTop (mkF m 51 #[.val (.int p0)] [(.int (58 : Int32)), (.int p0)])) _
            refine XS.icmpNo X0.here hx rfl (hb hby d13_51) rfl (feq (hc204 : ¬ (p0 = (58 : Int32)))).1 ?_
            show Steps p.tables e below (s₁.setTop (mkF m 54 #[.val (.int p0)] [])) _
            refine XS.iloadN X0.here hx rfl (hb hby d13_54) rfl ?_
            show Steps p.tables e below (s₁.setTop (mkF m 55 #[.val (.int p0)] [(.int p0)])) _
            refine XS.bipush X0.here hx rfl (hb hby d13_55) ?_
            show Steps p.tables e below (s₁.setTop (mkF m 57 #[.val (.int p0)] [(.int (45 : Int32)), (.int p0)])) _
            refine XS.icmpYes X0.here hx rfl (pc0 := 57) (pc' := 64) rfl (hb hby d13_57) rfl (feq (hd205 : ¬ (p0 = (45 : Int32)))).2 (by decide) (by decide) ?_
            show Steps p.tables e below (s₁.setTop (mkF m 64 #[.val (.int p0)] [])) _
            refine XS.iconst X0.here hx rfl (hb hby d13_64) ?_
            show Steps p.tables e below (s₁.setTop (mkF m 65 #[.val (.int p0)] [(.int (0 : Int32))])) _
            exact retN X0 hx (t := .boolean) Bd.returns (by simp) (hb hby d13_65) hr
          · show QrmIsa Z p0 h0 n0 _ s₁.heap _
            rw [e0]
            exact ⟨(congrArg (fun x => some (Value.int x)) (bi_f (by simp [own_ok, hc189, hd190, hc192, hc200, hd201, hd202, hc204, hd205])).symm), N0, rfl⟩
      · obtain ⟨fs, hr, hrun, hended, hW, hsame⟩ := X0.leave (v := some (.int (1 : Int32))) (fun h => by rw [Bd.returns] at h; cases h)
        refine ⟨_, _, pre199 _ ?_, hrun, hended, _, _, rfl, ?_, ⟨_, rfl⟩, hW, hsame.mono (by decide) (by decide)⟩
        · show Steps p.tables e below (s₁.setTop (mkF m 33 #[.val (.int p0)] [(.int (57 : Int32)), (.int p0)])) _
          refine XS.icmpYes X0.here hx rfl (pc0 := 33) (pc' := 60) rfl (hb hby d13_33) rfl (flt (hc200 : ¬ ((57 : Int32) < p0))).2.2.2 (by decide) (by decide) ?_
          show Steps p.tables e below (s₁.setTop (mkF m 60 #[.val (.int p0)] [])) _
          refine XS.iconst X0.here hx rfl (hb hby d13_60) ?_
          show Steps p.tables e below (s₁.setTop (mkF m 61 #[.val (.int p0)] [(.int (1 : Int32))])) _
          refine XS.goto X0.here hx rfl (pc0 := 61) (pc' := 65) rfl (hb hby d13_61) (by decide) (by decide) ?_
          show Steps p.tables e below (s₁.setTop (mkF m 65 #[.val (.int p0)] [(.int (1 : Int32))])) _
          exact retN X0 hx (t := .boolean) Bd.returns (by simp) (hb hby d13_65) hr
        · show QrmIsa Z p0 h0 n0 _ s₁.heap _
          rw [e0]
          exact ⟨(congrArg (fun x => some (Value.int x)) (bi_t (by simp [own_ok, hc189, hd190, hc192, hc200])).symm), N0, rfl⟩
  · have pre206 : ∀ t, Steps p.tables e below (s₁.setTop (mkF m 9 #[.val (.int p0)] [(.int (90 : Int32)), (.int p0)])) t → Steps p.tables e below (s₁.setTop (entryFrame m #[(.int p0)] 1)) t := fun t k => by
      refine pre188 _ ?_
      show Steps p.tables e below (s₁.setTop (mkF m 3 #[.val (.int p0)] [(.int (65 : Int32)), (.int p0)])) _
      refine XS.icmpNo X0.here hx rfl (hb hby d13_3) rfl (flt (hc189 : ¬ (p0 < (65 : Int32)))).1 ?_
      show Steps p.tables e below (s₁.setTop (mkF m 6 #[.val (.int p0)] [])) _
      refine XS.iloadN X0.here hx rfl (hb hby d13_6) rfl ?_
      show Steps p.tables e below (s₁.setTop (mkF m 7 #[.val (.int p0)] [(.int p0)])) _
      refine XS.bipush X0.here hx rfl (hb hby d13_7) ?_
      exact k
    by_cases hc207 : (90 : Int32) < p0
    · have pre208 : ∀ t, Steps p.tables e below (s₁.setTop (mkF m 15 #[.val (.int p0)] [(.int (97 : Int32)), (.int p0)])) t → Steps p.tables e below (s₁.setTop (entryFrame m #[(.int p0)] 1)) t := fun t k => by
        refine pre206 _ ?_
        show Steps p.tables e below (s₁.setTop (mkF m 9 #[.val (.int p0)] [(.int (90 : Int32)), (.int p0)])) _
        refine XS.icmpNo X0.here hx rfl (hb hby d13_9) rfl (tlt (hc207 : (90 : Int32) < p0)).2.2.2 ?_
        show Steps p.tables e below (s₁.setTop (mkF m 12 #[.val (.int p0)] [])) _
        refine XS.iloadN X0.here hx rfl (hb hby d13_12) rfl ?_
        show Steps p.tables e below (s₁.setTop (mkF m 13 #[.val (.int p0)] [(.int p0)])) _
        refine XS.bipush X0.here hx rfl (hb hby d13_13) ?_
        exact k
      by_cases hc209 : p0 < (97 : Int32)
      · have hd210 : ¬ (p0 < (48 : Int32)) := by simp only [Int32.lt_iff_toInt_lt, ← Int32.toInt_inj, own_i65, own_i90, own_i97, own_i122, own_i48, own_i57, own_i46, own_i95, own_i58, own_i45] at hc189 hc207 hc209 ⊢; omega
        have hd211 : ((57 : Int32) < p0) := by simp only [Int32.lt_iff_toInt_lt, ← Int32.toInt_inj, own_i65, own_i90, own_i97, own_i122, own_i48, own_i57, own_i46, own_i95, own_i58, own_i45] at hc189 hc207 hc209 hd210 ⊢; omega
        have hd212 : ¬ (p0 = (46 : Int32)) := by simp only [Int32.lt_iff_toInt_lt, ← Int32.toInt_inj, own_i65, own_i90, own_i97, own_i122, own_i48, own_i57, own_i46, own_i95, own_i58, own_i45] at hc189 hc207 hc209 hd210 hd211 ⊢; omega
        have pre213 : ∀ t, Steps p.tables e below (s₁.setTop (mkF m 45 #[.val (.int p0)] [(.int (95 : Int32)), (.int p0)])) t → Steps p.tables e below (s₁.setTop (entryFrame m #[(.int p0)] 1)) t := fun t k => by
          refine pre208 _ ?_
          show Steps p.tables e below (s₁.setTop (mkF m 15 #[.val (.int p0)] [(.int (97 : Int32)), (.int p0)])) _
          refine XS.icmpYes X0.here hx rfl (pc0 := 15) (pc' := 24) rfl (hb hby d13_15) rfl (tlt (hc209 : p0 < (97 : Int32))).1 (by decide) (by decide) ?_
          show Steps p.tables e below (s₁.setTop (mkF m 24 #[.val (.int p0)] [])) _
          refine XS.iloadN X0.here hx rfl (hb hby d13_24) rfl ?_
          show Steps p.tables e below (s₁.setTop (mkF m 25 #[.val (.int p0)] [(.int p0)])) _
          refine XS.bipush X0.here hx rfl (hb hby d13_25) ?_
          show Steps p.tables e below (s₁.setTop (mkF m 27 #[.val (.int p0)] [(.int (48 : Int32)), (.int p0)])) _
          refine XS.icmpNo X0.here hx rfl (hb hby d13_27) rfl (flt (hd210 : ¬ (p0 < (48 : Int32)))).1 ?_
          show Steps p.tables e below (s₁.setTop (mkF m 30 #[.val (.int p0)] [])) _
          refine XS.iloadN X0.here hx rfl (hb hby d13_30) rfl ?_
          show Steps p.tables e below (s₁.setTop (mkF m 31 #[.val (.int p0)] [(.int p0)])) _
          refine XS.bipush X0.here hx rfl (hb hby d13_31) ?_
          show Steps p.tables e below (s₁.setTop (mkF m 33 #[.val (.int p0)] [(.int (57 : Int32)), (.int p0)])) _
          refine XS.icmpNo X0.here hx rfl (hb hby d13_33) rfl (tlt (hd211 : (57 : Int32) < p0)).2.2.2 ?_
          show Steps p.tables e below (s₁.setTop (mkF m 36 #[.val (.int p0)] [])) _
          refine XS.iloadN X0.here hx rfl (hb hby d13_36) rfl ?_
          show Steps p.tables e below (s₁.setTop (mkF m 37 #[.val (.int p0)] [(.int p0)])) _
          refine XS.bipush X0.here hx rfl (hb hby d13_37) ?_
          show Steps p.tables e below (s₁.setTop (mkF m 39 #[.val (.int p0)] [(.int (46 : Int32)), (.int p0)])) _
          refine XS.icmpNo X0.here hx rfl (hb hby d13_39) rfl (feq (hd212 : ¬ (p0 = (46 : Int32)))).1 ?_
          show Steps p.tables e below (s₁.setTop (mkF m 42 #[.val (.int p0)] [])) _
          refine XS.iloadN X0.here hx rfl (hb hby d13_42) rfl ?_
          show Steps p.tables e below (s₁.setTop (mkF m 43 #[.val (.int p0)] [(.int p0)])) _
          refine XS.bipush X0.here hx rfl (hb hby d13_43) ?_
          exact k
        by_cases hc214 : p0 = (95 : Int32)
        · obtain ⟨fs, hr, hrun, hended, hW, hsame⟩ := X0.leave (v := some (.int (1 : Int32))) (fun h => by rw [Bd.returns] at h; cases h)
          refine ⟨_, _, pre213 _ ?_, hrun, hended, _, _, rfl, ?_, ⟨_, rfl⟩, hW, hsame.mono (by decide) (by decide)⟩
          · show Steps p.tables e below (s₁.setTop (mkF m 45 #[.val (.int p0)] [(.int (95 : Int32)), (.int p0)])) _
            refine XS.icmpYes X0.here hx rfl (pc0 := 45) (pc' := 60) rfl (hb hby d13_45) rfl (teq (hc214 : p0 = (95 : Int32))).1 (by decide) (by decide) ?_
            show Steps p.tables e below (s₁.setTop (mkF m 60 #[.val (.int p0)] [])) _
            refine XS.iconst X0.here hx rfl (hb hby d13_60) ?_
            show Steps p.tables e below (s₁.setTop (mkF m 61 #[.val (.int p0)] [(.int (1 : Int32))])) _
            refine XS.goto X0.here hx rfl (pc0 := 61) (pc' := 65) rfl (hb hby d13_61) (by decide) (by decide) ?_
            show Steps p.tables e below (s₁.setTop (mkF m 65 #[.val (.int p0)] [(.int (1 : Int32))])) _
            exact retN X0 hx (t := .boolean) Bd.returns (by simp) (hb hby d13_65) hr
          · show QrmIsa Z p0 h0 n0 _ s₁.heap _
            rw [e0]
            exact ⟨(congrArg (fun x => some (Value.int x)) (bi_t (by simp [own_ok, hc189, hc207, hc209, hd210, hd211, hd212, hc214])).symm), N0, rfl⟩
        · have hd215 : ¬ (p0 = (58 : Int32)) := by simp only [Int32.lt_iff_toInt_lt, ← Int32.toInt_inj, own_i65, own_i90, own_i97, own_i122, own_i48, own_i57, own_i46, own_i95, own_i58, own_i45] at hc189 hc207 hc209 hd210 hd211 ⊢; omega
          have hd216 : ¬ (p0 = (45 : Int32)) := by simp only [Int32.lt_iff_toInt_lt, ← Int32.toInt_inj, own_i65, own_i90, own_i97, own_i122, own_i48, own_i57, own_i46, own_i95, own_i58, own_i45] at hc189 hc207 hc209 hd210 hd211 ⊢; omega
          obtain ⟨fs, hr, hrun, hended, hW, hsame⟩ := X0.leave (v := some (.int (0 : Int32))) (fun h => by rw [Bd.returns] at h; cases h)
          refine ⟨_, _, pre213 _ ?_, hrun, hended, _, _, rfl, ?_, ⟨_, rfl⟩, hW, hsame.mono (by decide) (by decide)⟩
          · show Steps p.tables e below (s₁.setTop (mkF m 45 #[.val (.int p0)] [(.int (95 : Int32)), (.int p0)])) _
            refine XS.icmpNo X0.here hx rfl (hb hby d13_45) rfl (feq (hc214 : ¬ (p0 = (95 : Int32)))).1 ?_
            show Steps p.tables e below (s₁.setTop (mkF m 48 #[.val (.int p0)] [])) _
            refine XS.iloadN X0.here hx rfl (hb hby d13_48) rfl ?_
            show Steps p.tables e below (s₁.setTop (mkF m 49 #[.val (.int p0)] [(.int p0)])) _
            refine XS.bipush X0.here hx rfl (hb hby d13_49) ?_
            show Steps p.tables e below (s₁.setTop (mkF m 51 #[.val (.int p0)] [(.int (58 : Int32)), (.int p0)])) _
            refine XS.icmpNo X0.here hx rfl (hb hby d13_51) rfl (feq (hd215 : ¬ (p0 = (58 : Int32)))).1 ?_
            show Steps p.tables e below (s₁.setTop (mkF m 54 #[.val (.int p0)] [])) _
            refine XS.iloadN X0.here hx rfl (hb hby d13_54) rfl ?_
            show Steps p.tables e below (s₁.setTop (mkF m 55 #[.val (.int p0)] [(.int p0)])) _
            refine XS.bipush X0.here hx rfl (hb hby d13_55) ?_
            show Steps p.tables e below (s₁.setTop (mkF m 57 #[.val (.int p0)] [(.int (45 : Int32)), (.int p0)])) _
            refine XS.icmpYes X0.here hx rfl (pc0 := 57) (pc' := 64) rfl (hb hby d13_57) rfl (feq (hd216 : ¬ (p0 = (45 : Int32)))).2 (by decide) (by decide) ?_
            show Steps p.tables e below (s₁.setTop (mkF m 64 #[.val (.int p0)] [])) _
            refine XS.iconst X0.here hx rfl (hb hby d13_64) ?_
            show Steps p.tables e below (s₁.setTop (mkF m 65 #[.val (.int p0)] [(.int (0 : Int32))])) _
            exact retN X0 hx (t := .boolean) Bd.returns (by simp) (hb hby d13_65) hr
          · show QrmIsa Z p0 h0 n0 _ s₁.heap _
            rw [e0]
            exact ⟨(congrArg (fun x => some (Value.int x)) (bi_f (by simp [own_ok, hc189, hc207, hc209, hd210, hd211, hd212, hc214, hd215, hd216])).symm), N0, rfl⟩
      · have pre217 : ∀ t, Steps p.tables e below (s₁.setTop (mkF m 21 #[.val (.int p0)] [(.int (122 : Int32)), (.int p0)])) t → Steps p.tables e below (s₁.setTop (entryFrame m #[(.int p0)] 1)) t := fun t k => by
          refine pre208 _ ?_
          show Steps p.tables e below (s₁.setTop (mkF m 15 #[.val (.int p0)] [(.int (97 : Int32)), (.int p0)])) _
          refine XS.icmpNo X0.here hx rfl (hb hby d13_15) rfl (flt (hc209 : ¬ (p0 < (97 : Int32)))).1 ?_
          show Steps p.tables e below (s₁.setTop (mkF m 18 #[.val (.int p0)] [])) _
          refine XS.iloadN X0.here hx rfl (hb hby d13_18) rfl ?_
          show Steps p.tables e below (s₁.setTop (mkF m 19 #[.val (.int p0)] [(.int p0)])) _
          refine XS.bipush X0.here hx rfl (hb hby d13_19) ?_
          exact k
        by_cases hc218 : (122 : Int32) < p0
        · have hd219 : ¬ (p0 < (48 : Int32)) := by simp only [Int32.lt_iff_toInt_lt, ← Int32.toInt_inj, own_i65, own_i90, own_i97, own_i122, own_i48, own_i57, own_i46, own_i95, own_i58, own_i45] at hc189 hc207 hc209 hc218 ⊢; omega
          have hd220 : ((57 : Int32) < p0) := by simp only [Int32.lt_iff_toInt_lt, ← Int32.toInt_inj, own_i65, own_i90, own_i97, own_i122, own_i48, own_i57, own_i46, own_i95, own_i58, own_i45] at hc189 hc207 hc209 hc218 hd219 ⊢; omega
          have hd221 : ¬ (p0 = (46 : Int32)) := by simp only [Int32.lt_iff_toInt_lt, ← Int32.toInt_inj, own_i65, own_i90, own_i97, own_i122, own_i48, own_i57, own_i46, own_i95, own_i58, own_i45] at hc189 hc207 hc209 hc218 hd219 hd220 ⊢; omega
          have hd222 : ¬ (p0 = (95 : Int32)) := by simp only [Int32.lt_iff_toInt_lt, ← Int32.toInt_inj, own_i65, own_i90, own_i97, own_i122, own_i48, own_i57, own_i46, own_i95, own_i58, own_i45] at hc189 hc207 hc209 hc218 hd219 hd220 ⊢; omega
          have hd223 : ¬ (p0 = (58 : Int32)) := by simp only [Int32.lt_iff_toInt_lt, ← Int32.toInt_inj, own_i65, own_i90, own_i97, own_i122, own_i48, own_i57, own_i46, own_i95, own_i58, own_i45] at hc189 hc207 hc209 hc218 hd219 hd220 ⊢; omega
          have hd224 : ¬ (p0 = (45 : Int32)) := by simp only [Int32.lt_iff_toInt_lt, ← Int32.toInt_inj, own_i65, own_i90, own_i97, own_i122, own_i48, own_i57, own_i46, own_i95, own_i58, own_i45] at hc189 hc207 hc209 hc218 hd219 hd220 ⊢; omega
          obtain ⟨fs, hr, hrun, hended, hW, hsame⟩ := X0.leave (v := some (.int (0 : Int32))) (fun h => by rw [Bd.returns] at h; cases h)
          refine ⟨_, _, pre217 _ ?_, hrun, hended, _, _, rfl, ?_, ⟨_, rfl⟩, hW, hsame.mono (by decide) (by decide)⟩
          · show Steps p.tables e below (s₁.setTop (mkF m 21 #[.val (.int p0)] [(.int (122 : Int32)), (.int p0)])) _
            refine XS.icmpNo X0.here hx rfl (hb hby d13_21) rfl (tlt (hc218 : (122 : Int32) < p0)).2.2.2 ?_
            show Steps p.tables e below (s₁.setTop (mkF m 24 #[.val (.int p0)] [])) _
            refine XS.iloadN X0.here hx rfl (hb hby d13_24) rfl ?_
            show Steps p.tables e below (s₁.setTop (mkF m 25 #[.val (.int p0)] [(.int p0)])) _
            refine XS.bipush X0.here hx rfl (hb hby d13_25) ?_
            show Steps p.tables e below (s₁.setTop (mkF m 27 #[.val (.int p0)] [(.int (48 : Int32)), (.int p0)])) _
            refine XS.icmpNo X0.here hx rfl (hb hby d13_27) rfl (flt (hd219 : ¬ (p0 < (48 : Int32)))).1 ?_
            show Steps p.tables e below (s₁.setTop (mkF m 30 #[.val (.int p0)] [])) _
            refine XS.iloadN X0.here hx rfl (hb hby d13_30) rfl ?_
            show Steps p.tables e below (s₁.setTop (mkF m 31 #[.val (.int p0)] [(.int p0)])) _
            refine XS.bipush X0.here hx rfl (hb hby d13_31) ?_
            show Steps p.tables e below (s₁.setTop (mkF m 33 #[.val (.int p0)] [(.int (57 : Int32)), (.int p0)])) _
            refine XS.icmpNo X0.here hx rfl (hb hby d13_33) rfl (tlt (hd220 : (57 : Int32) < p0)).2.2.2 ?_
            show Steps p.tables e below (s₁.setTop (mkF m 36 #[.val (.int p0)] [])) _
            refine XS.iloadN X0.here hx rfl (hb hby d13_36) rfl ?_
            show Steps p.tables e below (s₁.setTop (mkF m 37 #[.val (.int p0)] [(.int p0)])) _
            refine XS.bipush X0.here hx rfl (hb hby d13_37) ?_
            show Steps p.tables e below (s₁.setTop (mkF m 39 #[.val (.int p0)] [(.int (46 : Int32)), (.int p0)])) _
            refine XS.icmpNo X0.here hx rfl (hb hby d13_39) rfl (feq (hd221 : ¬ (p0 = (46 : Int32)))).1 ?_
            show Steps p.tables e below (s₁.setTop (mkF m 42 #[.val (.int p0)] [])) _
            refine XS.iloadN X0.here hx rfl (hb hby d13_42) rfl ?_
            show Steps p.tables e below (s₁.setTop (mkF m 43 #[.val (.int p0)] [(.int p0)])) _
            refine XS.bipush X0.here hx rfl (hb hby d13_43) ?_
            show Steps p.tables e below (s₁.setTop (mkF m 45 #[.val (.int p0)] [(.int (95 : Int32)), (.int p0)])) _
            refine XS.icmpNo X0.here hx rfl (hb hby d13_45) rfl (feq (hd222 : ¬ (p0 = (95 : Int32)))).1 ?_
            show Steps p.tables e below (s₁.setTop (mkF m 48 #[.val (.int p0)] [])) _
            refine XS.iloadN X0.here hx rfl (hb hby d13_48) rfl ?_
            show Steps p.tables e below (s₁.setTop (mkF m 49 #[.val (.int p0)] [(.int p0)])) _
            refine XS.bipush X0.here hx rfl (hb hby d13_49) ?_
            show Steps p.tables e below (s₁.setTop (mkF m 51 #[.val (.int p0)] [(.int (58 : Int32)), (.int p0)])) _
            refine XS.icmpNo X0.here hx rfl (hb hby d13_51) rfl (feq (hd223 : ¬ (p0 = (58 : Int32)))).1 ?_
            show Steps p.tables e below (s₁.setTop (mkF m 54 #[.val (.int p0)] [])) _
            refine XS.iloadN X0.here hx rfl (hb hby d13_54) rfl ?_
            show Steps p.tables e below (s₁.setTop (mkF m 55 #[.val (.int p0)] [(.int p0)])) _
            refine XS.bipush X0.here hx rfl (hb hby d13_55) ?_
            show Steps p.tables e below (s₁.setTop (mkF m 57 #[.val (.int p0)] [(.int (45 : Int32)), (.int p0)])) _
            refine XS.icmpYes X0.here hx rfl (pc0 := 57) (pc' := 64) rfl (hb hby d13_57) rfl (feq (hd224 : ¬ (p0 = (45 : Int32)))).2 (by decide) (by decide) ?_
            show Steps p.tables e below (s₁.setTop (mkF m 64 #[.val (.int p0)] [])) _
            refine XS.iconst X0.here hx rfl (hb hby d13_64) ?_
            show Steps p.tables e below (s₁.setTop (mkF m 65 #[.val (.int p0)] [(.int (0 : Int32))])) _
            exact retN X0 hx (t := .boolean) Bd.returns (by simp) (hb hby d13_65) hr
          · show QrmIsa Z p0 h0 n0 _ s₁.heap _
            rw [e0]
            exact ⟨(congrArg (fun x => some (Value.int x)) (bi_f (by simp [own_ok, hc189, hc207, hc209, hc218, hd219, hd220, hd221, hd222, hd223, hd224])).symm), N0, rfl⟩
        · obtain ⟨fs, hr, hrun, hended, hW, hsame⟩ := X0.leave (v := some (.int (1 : Int32))) (fun h => by rw [Bd.returns] at h; cases h)
          refine ⟨_, _, pre217 _ ?_, hrun, hended, _, _, rfl, ?_, ⟨_, rfl⟩, hW, hsame.mono (by decide) (by decide)⟩
          · show Steps p.tables e below (s₁.setTop (mkF m 21 #[.val (.int p0)] [(.int (122 : Int32)), (.int p0)])) _
            refine XS.icmpYes X0.here hx rfl (pc0 := 21) (pc' := 60) rfl (hb hby d13_21) rfl (flt (hc218 : ¬ ((122 : Int32) < p0))).2.2.2 (by decide) (by decide) ?_
            show Steps p.tables e below (s₁.setTop (mkF m 60 #[.val (.int p0)] [])) _
            refine XS.iconst X0.here hx rfl (hb hby d13_60) ?_
            show Steps p.tables e below (s₁.setTop (mkF m 61 #[.val (.int p0)] [(.int (1 : Int32))])) _
            refine XS.goto X0.here hx rfl (pc0 := 61) (pc' := 65) rfl (hb hby d13_61) (by decide) (by decide) ?_
            show Steps p.tables e below (s₁.setTop (mkF m 65 #[.val (.int p0)] [(.int (1 : Int32))])) _
            exact retN X0 hx (t := .boolean) Bd.returns (by simp) (hb hby d13_65) hr
          · show QrmIsa Z p0 h0 n0 _ s₁.heap _
            rw [e0]
            exact ⟨(congrArg (fun x => some (Value.int x)) (bi_t (by simp [own_ok, hc189, hc207, hc209, hc218])).symm), N0, rfl⟩
    · obtain ⟨fs, hr, hrun, hended, hW, hsame⟩ := X0.leave (v := some (.int (1 : Int32))) (fun h => by rw [Bd.returns] at h; cases h)
      refine ⟨_, _, pre206 _ ?_, hrun, hended, _, _, rfl, ?_, ⟨_, rfl⟩, hW, hsame.mono (by decide) (by decide)⟩
      · show Steps p.tables e below (s₁.setTop (mkF m 9 #[.val (.int p0)] [(.int (90 : Int32)), (.int p0)])) _
        refine XS.icmpYes X0.here hx rfl (pc0 := 9) (pc' := 60) rfl (hb hby d13_9) rfl (flt (hc207 : ¬ ((90 : Int32) < p0))).2.2.2 (by decide) (by decide) ?_
        show Steps p.tables e below (s₁.setTop (mkF m 60 #[.val (.int p0)] [])) _
        refine XS.iconst X0.here hx rfl (hb hby d13_60) ?_
        show Steps p.tables e below (s₁.setTop (mkF m 61 #[.val (.int p0)] [(.int (1 : Int32))])) _
        refine XS.goto X0.here hx rfl (pc0 := 61) (pc' := 65) rfl (hb hby d13_61) (by decide) (by decide) ?_
        show Steps p.tables e below (s₁.setTop (mkF m 65 #[.val (.int p0)] [(.int (1 : Int32))])) _
        exact retN X0 hx (t := .boolean) Bd.returns (by simp) (hb hby d13_65) hr
      · show QrmIsa Z p0 h0 n0 _ s₁.heap _
        rw [e0]
        exact ⟨(congrArg (fun x => some (Value.int x)) (bi_t (by simp [own_ok, hc189, hc207])).symm), N0, rfl⟩
theorem d15_0 : decode method_4_code 0 = .ok (.iload_n 0, 1) := by decide +kernel
theorem d15_1 : decode method_4_code 1 = .ok (.bipush 65, 2) := by decide +kernel
theorem d15_3 : decode method_4_code 3 = .ok (.if_icmp .lt 11, 3) := by decide +kernel
theorem d15_14 : decode method_4_code 14 = .ok (.iload_n 0, 1) := by decide +kernel
theorem d15_15 : decode method_4_code 15 = .ok (.bipush 97, 2) := by decide +kernel
theorem d15_17 : decode method_4_code 17 = .ok (.if_icmp .lt 11, 3) := by decide +kernel
theorem d15_28 : decode method_4_code 28 = .ok (.iload_n 0, 1) := by decide +kernel
theorem d15_29 : decode method_4_code 29 = .ok (.bipush 48, 2) := by decide +kernel
theorem d15_31 : decode method_4_code 31 = .ok (.if_icmp .lt 11, 3) := by decide +kernel
theorem d15_42 : decode method_4_code 42 = .ok (.iload_n 0, 1) := by decide +kernel
theorem d15_43 : decode method_4_code 43 = .ok (.bipush 46, 2) := by decide +kernel
theorem d15_45 : decode method_4_code 45 = .ok (.if_icmp .ne 5, 3) := by decide +kernel
theorem d15_48 : decode method_4_code 48 = .ok (.iconst 1, 1) := by decide +kernel
theorem d15_49 : decode method_4_code 49 = .ok (.ireturn, 1) := by decide +kernel
theorem d15_50 : decode method_4_code 50 = .ok (.iload_n 0, 1) := by decide +kernel
theorem d15_51 : decode method_4_code 51 = .ok (.bipush 95, 2) := by decide +kernel
theorem d15_53 : decode method_4_code 53 = .ok (.if_icmp .ne 5, 3) := by decide +kernel
theorem d15_58 : decode method_4_code 58 = .ok (.iload_n 0, 1) := by decide +kernel
theorem d15_59 : decode method_4_code 59 = .ok (.bipush 58, 2) := by decide +kernel
theorem d15_61 : decode method_4_code 61 = .ok (.if_icmp .ne 5, 3) := by decide +kernel
theorem d15_66 : decode method_4_code 66 = .ok (.iload_n 0, 1) := by decide +kernel
theorem d15_67 : decode method_4_code 67 = .ok (.bipush 45, 2) := by decide +kernel
theorem d15_69 : decode method_4_code 69 = .ok (.if_icmp .ne 7, 3) := by decide +kernel
theorem d15_72 : decode method_4_code 72 = .ok (.iconst 1, 1) := by decide +kernel
theorem d15_73 : decode method_4_code 73 = .ok (.goto 4, 3) := by decide +kernel
theorem d15_77 : decode method_4_code 77 = .ok (.ireturn, 1) := by decide +kernel
theorem d15_76 : decode method_4_code 76 = .ok (.iconst 0, 1) := by decide +kernel
theorem d15_34 : decode method_4_code 34 = .ok (.iload_n 0, 1) := by decide +kernel
theorem d15_35 : decode method_4_code 35 = .ok (.bipush 57, 2) := by decide +kernel
theorem d15_37 : decode method_4_code 37 = .ok (.if_icmp .gt 5, 3) := by decide +kernel
theorem d15_64 : decode method_4_code 64 = .ok (.iconst 1, 1) := by decide +kernel
theorem d15_65 : decode method_4_code 65 = .ok (.ireturn, 1) := by decide +kernel
theorem d15_40 : decode method_4_code 40 = .ok (.iconst 1, 1) := by decide +kernel
theorem d15_41 : decode method_4_code 41 = .ok (.ireturn, 1) := by decide +kernel
theorem d15_6 : decode method_4_code 6 = .ok (.iload_n 0, 1) := by decide +kernel
theorem d15_7 : decode method_4_code 7 = .ok (.bipush 90, 2) := by decide +kernel
theorem d15_9 : decode method_4_code 9 = .ok (.if_icmp .gt 5, 3) := by decide +kernel
theorem d15_56 : decode method_4_code 56 = .ok (.iconst 1, 1) := by decide +kernel
theorem d15_57 : decode method_4_code 57 = .ok (.ireturn, 1) := by decide +kernel
theorem d15_20 : decode method_4_code 20 = .ok (.iload_n 0, 1) := by decide +kernel
theorem d15_21 : decode method_4_code 21 = .ok (.bipush 122, 2) := by decide +kernel
theorem d15_23 : decode method_4_code 23 = .ok (.if_icmp .gt 5, 3) := by decide +kernel
theorem d15_26 : decode method_4_code 26 = .ok (.iconst 1, 1) := by decide +kernel
theorem d15_27 : decode method_4_code 27 = .ok (.ireturn, 1) := by decide +kernel
theorem d15_12 : decode method_4_code 12 = .ok (.iconst 1, 1) := by decide +kernel
theorem d15_13 : decode method_4_code 13 = .ok (.ireturn, 1) := by decide +kernel
theorem pn_15 : plainName "com/example/delay_buckets/delaybuckets/NamesIsValidPinLaw" = true := by first | (simp [plainName, overriddenIn]; done) | decide +kernel
theorem ef_rmAlw (m : MethodId) (p0 : Int32) : entryFrame m #[(.int p0)] 1 = mkF m 0 #[.val (.int p0)] [] := by first | (simp [entryFrame, mkF, argsToLocals, Value.category]; done) | rfl
def QrmAlw (Z : State) (p0 : Int32) (h0 : Heap) (n0 : Nat) (v : Option Value) (h : Heap) (L : List Loc) : Prop := v = some (.int (bi (own_ok p0))) ∧ Fr n0 L ∧ h = h0
set_option maxRecDepth 65536 in
set_option maxHeartbeats 40000000 in
theorem rmAlw (l : Launch) (Z : State) (a0 : Array Value) (hw : ∀ d ∈ tables_1, d.before a0 Z = true) (ws : List Jvm.Cond) (p0 : Int32) (h0 : Heap) (n0 : Nat) (Z0 : n0 ≤ h0.size) :
    MetFree l (⟨"com/example/delay_buckets/delaybuckets/NamesIsValidPinLaw", "allowed", "(C)Z"⟩ : MethodName) (head1 (Jvm.Cond.code (⟨"com/example/delay_buckets/delaybuckets/NamesIsValidPinLaw", "allowed", "(C)Z"⟩ : MethodName) method_4_code 1 (some .boolean) :: ws) ({ frames := 0, cells := 0, slots := 0, locals := 0 } : Room)) (fun a U => a = #[(.int p0)] ∧ Z.Warmed39 U.vm ∧ U.heap = h0) (fun _ _ _ _ _ => True) (fun _ U o U' => ∃ v L, o = .returned v ∧ QrmAlw Z p0 h0 n0 v U'.heap L ∧ FrameEnd U o U' L ({ frames := 0, cells := 0, slots := 0, locals := 0 } : Room).cells ({ frames := 0, cells := 0, slots := 0, locals := 0 } : Room).slots) := by
  refine MetFree.of_bodySF (plainFor_of_name pn_15) hisR ?_
  intro p e s m args below meth c s₁ Bd hml0 hP hK
  obtain ⟨rfl, hZ, hh⟩ := hP
  have hx := Bd.exec
  have hby := Bd.bytes
  have hml : c.maxLocals = 1 := hml0
  have hown : s.vm.findClass "com/example/delay_buckets/delaybuckets/NamesIsValidPinLaw" = some m.cls := findClass_of_methodNamed Bd.named
  have hnm := (name_of_methodNamed Bd.named Bd.method).1
  have X0 : Stand p l e ({ frames := 0, cells := 0, slots := 0, locals := 0 } : Room) s m #[(.int p0)] below meth c s₁ [] 0 0 := Stand.of_body Bd
  have e0 : s₁.heap = h0 := by rw [← hh, Bd.state]; rfl
  have N0 := Fr.nil n0
  have pre0 : ∀ t, Steps p.tables e below (s₁.setTop (mkF m 0 #[.val (.int p0)] [])) t → Steps p.tables e below (s₁.setTop (entryFrame m #[(.int p0)] 1)) t := fun t k => castTop (ef_rmAlw m p0) k
  have KC0 : Keep h0 h0 [] := Keep.refl _ _
  have pre225 : ∀ t, Steps p.tables e below (s₁.setTop (mkF m 3 #[.val (.int p0)] [(.int (65 : Int32)), (.int p0)])) t → Steps p.tables e below (s₁.setTop (entryFrame m #[(.int p0)] 1)) t := fun t k => by
    refine pre0 _ ?_
    show Steps p.tables e below (s₁.setTop (mkF m 0 #[.val (.int p0)] [])) _
    refine XS.iloadN X0.here hx rfl (hb hby d15_0) rfl ?_
    show Steps p.tables e below (s₁.setTop (mkF m 1 #[.val (.int p0)] [(.int p0)])) _
    refine XS.bipush X0.here hx rfl (hb hby d15_1) ?_
    exact k
  by_cases hc226 : p0 < (65 : Int32)
  · have hd227 : (p0 < (97 : Int32)) := by simp only [Int32.lt_iff_toInt_lt, ← Int32.toInt_inj, own_i65, own_i90, own_i97, own_i122, own_i48, own_i57, own_i46, own_i95, own_i58, own_i45] at hc226 ⊢; omega
    have pre228 : ∀ t, Steps p.tables e below (s₁.setTop (mkF m 31 #[.val (.int p0)] [(.int (48 : Int32)), (.int p0)])) t → Steps p.tables e below (s₁.setTop (entryFrame m #[(.int p0)] 1)) t := fun t k => by
      refine pre225 _ ?_
      show Steps p.tables e below (s₁.setTop (mkF m 3 #[.val (.int p0)] [(.int (65 : Int32)), (.int p0)])) _
      refine XS.icmpYes X0.here hx rfl (pc0 := 3) (pc' := 14) rfl (hb hby d15_3) rfl (tlt (hc226 : p0 < (65 : Int32))).1 (by decide) (by decide) ?_
      show Steps p.tables e below (s₁.setTop (mkF m 14 #[.val (.int p0)] [])) _
      refine XS.iloadN X0.here hx rfl (hb hby d15_14) rfl ?_
      show Steps p.tables e below (s₁.setTop (mkF m 15 #[.val (.int p0)] [(.int p0)])) _
      refine XS.bipush X0.here hx rfl (hb hby d15_15) ?_
      show Steps p.tables e below (s₁.setTop (mkF m 17 #[.val (.int p0)] [(.int (97 : Int32)), (.int p0)])) _
      refine XS.icmpYes X0.here hx rfl (pc0 := 17) (pc' := 28) rfl (hb hby d15_17) rfl (tlt (hd227 : p0 < (97 : Int32))).1 (by decide) (by decide) ?_
      show Steps p.tables e below (s₁.setTop (mkF m 28 #[.val (.int p0)] [])) _
      refine XS.iloadN X0.here hx rfl (hb hby d15_28) rfl ?_
      show Steps p.tables e below (s₁.setTop (mkF m 29 #[.val (.int p0)] [(.int p0)])) _
      refine XS.bipush X0.here hx rfl (hb hby d15_29) ?_
      exact k
    by_cases hc229 : p0 < (48 : Int32)
    · have pre230 : ∀ t, Steps p.tables e below (s₁.setTop (mkF m 45 #[.val (.int p0)] [(.int (46 : Int32)), (.int p0)])) t → Steps p.tables e below (s₁.setTop (entryFrame m #[(.int p0)] 1)) t := fun t k => by
        refine pre228 _ ?_
        show Steps p.tables e below (s₁.setTop (mkF m 31 #[.val (.int p0)] [(.int (48 : Int32)), (.int p0)])) _
        refine XS.icmpYes X0.here hx rfl (pc0 := 31) (pc' := 42) rfl (hb hby d15_31) rfl (tlt (hc229 : p0 < (48 : Int32))).1 (by decide) (by decide) ?_
        show Steps p.tables e below (s₁.setTop (mkF m 42 #[.val (.int p0)] [])) _
        refine XS.iloadN X0.here hx rfl (hb hby d15_42) rfl ?_
        show Steps p.tables e below (s₁.setTop (mkF m 43 #[.val (.int p0)] [(.int p0)])) _
        refine XS.bipush X0.here hx rfl (hb hby d15_43) ?_
        exact k
      by_cases hc231 : p0 = (46 : Int32)
      · obtain ⟨fs, hr, hrun, hended, hW, hsame⟩ := X0.leave (v := some (.int (1 : Int32))) (fun h => by rw [Bd.returns] at h; cases h)
        refine ⟨_, _, pre230 _ ?_, hrun, hended, _, _, rfl, ?_, ⟨_, rfl⟩, hW, hsame.mono (by decide) (by decide)⟩
        · show Steps p.tables e below (s₁.setTop (mkF m 45 #[.val (.int p0)] [(.int (46 : Int32)), (.int p0)])) _
          refine XS.icmpNo X0.here hx rfl (hb hby d15_45) rfl (teq (hc231 : p0 = (46 : Int32))).2 ?_
          show Steps p.tables e below (s₁.setTop (mkF m 48 #[.val (.int p0)] [])) _
          refine XS.iconst X0.here hx rfl (hb hby d15_48) ?_
          show Steps p.tables e below (s₁.setTop (mkF m 49 #[.val (.int p0)] [(.int (1 : Int32))])) _
          exact retN X0 hx (t := .boolean) Bd.returns (by simp) (hb hby d15_49) hr
        · show QrmAlw Z p0 h0 n0 _ s₁.heap _
          rw [e0]
          exact ⟨(congrArg (fun x => some (Value.int x)) (bi_t (by simp [own_ok, hc226, hd227, hc229, hc231])).symm), N0, rfl⟩
      · have hd232 : ¬ (p0 = (95 : Int32)) := by simp only [Int32.lt_iff_toInt_lt, ← Int32.toInt_inj, own_i65, own_i90, own_i97, own_i122, own_i48, own_i57, own_i46, own_i95, own_i58, own_i45] at hc226 hd227 hc229 ⊢; omega
        have hd233 : ¬ (p0 = (58 : Int32)) := by simp only [Int32.lt_iff_toInt_lt, ← Int32.toInt_inj, own_i65, own_i90, own_i97, own_i122, own_i48, own_i57, own_i46, own_i95, own_i58, own_i45] at hc226 hd227 hc229 ⊢; omega
        have pre234 : ∀ t, Steps p.tables e below (s₁.setTop (mkF m 69 #[.val (.int p0)] [(.int (45 : Int32)), (.int p0)])) t → Steps p.tables e below (s₁.setTop (entryFrame m #[(.int p0)] 1)) t := fun t k => by
          refine pre230 _ ?_
          show Steps p.tables e below (s₁.setTop (mkF m 45 #[.val (.int p0)] [(.int (46 : Int32)), (.int p0)])) _
          refine XS.icmpYes X0.here hx rfl (pc0 := 45) (pc' := 50) rfl (hb hby d15_45) rfl (feq (hc231 : ¬ (p0 = (46 : Int32)))).2 (by decide) (by decide) ?_
          show Steps p.tables e below (s₁.setTop (mkF m 50 #[.val (.int p0)] [])) _
          refine XS.iloadN X0.here hx rfl (hb hby d15_50) rfl ?_
          show Steps p.tables e below (s₁.setTop (mkF m 51 #[.val (.int p0)] [(.int p0)])) _
          refine XS.bipush X0.here hx rfl (hb hby d15_51) ?_
          show Steps p.tables e below (s₁.setTop (mkF m 53 #[.val (.int p0)] [(.int (95 : Int32)), (.int p0)])) _
          refine XS.icmpYes X0.here hx rfl (pc0 := 53) (pc' := 58) rfl (hb hby d15_53) rfl (feq (hd232 : ¬ (p0 = (95 : Int32)))).2 (by decide) (by decide) ?_
          show Steps p.tables e below (s₁.setTop (mkF m 58 #[.val (.int p0)] [])) _
          refine XS.iloadN X0.here hx rfl (hb hby d15_58) rfl ?_
          show Steps p.tables e below (s₁.setTop (mkF m 59 #[.val (.int p0)] [(.int p0)])) _
          refine XS.bipush X0.here hx rfl (hb hby d15_59) ?_
          show Steps p.tables e below (s₁.setTop (mkF m 61 #[.val (.int p0)] [(.int (58 : Int32)), (.int p0)])) _
          refine XS.icmpYes X0.here hx rfl (pc0 := 61) (pc' := 66) rfl (hb hby d15_61) rfl (feq (hd233 : ¬ (p0 = (58 : Int32)))).2 (by decide) (by decide) ?_
          show Steps p.tables e below (s₁.setTop (mkF m 66 #[.val (.int p0)] [])) _
          refine XS.iloadN X0.here hx rfl (hb hby d15_66) rfl ?_
          show Steps p.tables e below (s₁.setTop (mkF m 67 #[.val (.int p0)] [(.int p0)])) _
          refine XS.bipush X0.here hx rfl (hb hby d15_67) ?_
          exact k
        by_cases hc235 : p0 = (45 : Int32)
        · obtain ⟨fs, hr, hrun, hended, hW, hsame⟩ := X0.leave (v := some (.int (1 : Int32))) (fun h => by rw [Bd.returns] at h; cases h)
          refine ⟨_, _, pre234 _ ?_, hrun, hended, _, _, rfl, ?_, ⟨_, rfl⟩, hW, hsame.mono (by decide) (by decide)⟩
          · show Steps p.tables e below (s₁.setTop (mkF m 69 #[.val (.int p0)] [(.int (45 : Int32)), (.int p0)])) _
            refine XS.icmpNo X0.here hx rfl (hb hby d15_69) rfl (teq (hc235 : p0 = (45 : Int32))).2 ?_
            show Steps p.tables e below (s₁.setTop (mkF m 72 #[.val (.int p0)] [])) _
            refine XS.iconst X0.here hx rfl (hb hby d15_72) ?_
            show Steps p.tables e below (s₁.setTop (mkF m 73 #[.val (.int p0)] [(.int (1 : Int32))])) _
            refine XS.goto X0.here hx rfl (pc0 := 73) (pc' := 77) rfl (hb hby d15_73) (by decide) (by decide) ?_
            show Steps p.tables e below (s₁.setTop (mkF m 77 #[.val (.int p0)] [(.int (1 : Int32))])) _
            exact retN X0 hx (t := .boolean) Bd.returns (by simp) (hb hby d15_77) hr
          · show QrmAlw Z p0 h0 n0 _ s₁.heap _
            rw [e0]
            exact ⟨(congrArg (fun x => some (Value.int x)) (bi_t (by simp [own_ok, hc226, hd227, hc229, hc231, hd232, hd233, hc235])).symm), N0, rfl⟩
        · obtain ⟨fs, hr, hrun, hended, hW, hsame⟩ := X0.leave (v := some (.int (0 : Int32))) (fun h => by rw [Bd.returns] at h; cases h)
          refine ⟨_, _, pre234 _ ?_, hrun, hended, _, _, rfl, ?_, ⟨_, rfl⟩, hW, hsame.mono (by decide) (by decide)⟩
          · show Steps p.tables e below (s₁.setTop (mkF m 69 #[.val (.int p0)] [(.int (45 : Int32)), (.int p0)])) _
            refine XS.icmpYes X0.here hx rfl (pc0 := 69) (pc' := 76) rfl (hb hby d15_69) rfl (feq (hc235 : ¬ (p0 = (45 : Int32)))).2 (by decide) (by decide) ?_
            show Steps p.tables e below (s₁.setTop (mkF m 76 #[.val (.int p0)] [])) _
            refine XS.iconst X0.here hx rfl (hb hby d15_76) ?_
            show Steps p.tables e below (s₁.setTop (mkF m 77 #[.val (.int p0)] [(.int (0 : Int32))])) _
            exact retN X0 hx (t := .boolean) Bd.returns (by simp) (hb hby d15_77) hr
          · show QrmAlw Z p0 h0 n0 _ s₁.heap _
            rw [e0]
            exact ⟨(congrArg (fun x => some (Value.int x)) (bi_f (by simp [own_ok, hc226, hd227, hc229, hc231, hd232, hd233, hc235])).symm), N0, rfl⟩
    · have pre236 : ∀ t, Steps p.tables e below (s₁.setTop (mkF m 37 #[.val (.int p0)] [(.int (57 : Int32)), (.int p0)])) t → Steps p.tables e below (s₁.setTop (entryFrame m #[(.int p0)] 1)) t := fun t k => by
        refine pre228 _ ?_
        show Steps p.tables e below (s₁.setTop (mkF m 31 #[.val (.int p0)] [(.int (48 : Int32)), (.int p0)])) _
        refine XS.icmpNo X0.here hx rfl (hb hby d15_31) rfl (flt (hc229 : ¬ (p0 < (48 : Int32)))).1 ?_
        show Steps p.tables e below (s₁.setTop (mkF m 34 #[.val (.int p0)] [])) _
        refine XS.iloadN X0.here hx rfl (hb hby d15_34) rfl ?_
        show Steps p.tables e below (s₁.setTop (mkF m 35 #[.val (.int p0)] [(.int p0)])) _
        refine XS.bipush X0.here hx rfl (hb hby d15_35) ?_
        exact k
      by_cases hc237 : (57 : Int32) < p0
      · have hd238 : ¬ (p0 = (46 : Int32)) := by simp only [Int32.lt_iff_toInt_lt, ← Int32.toInt_inj, own_i65, own_i90, own_i97, own_i122, own_i48, own_i57, own_i46, own_i95, own_i58, own_i45] at hc226 hd227 hc229 hc237 ⊢; omega
        have hd239 : ¬ (p0 = (95 : Int32)) := by simp only [Int32.lt_iff_toInt_lt, ← Int32.toInt_inj, own_i65, own_i90, own_i97, own_i122, own_i48, own_i57, own_i46, own_i95, own_i58, own_i45] at hc226 hd227 hc229 hc237 ⊢; omega
        have pre240 : ∀ t, Steps p.tables e below (s₁.setTop (mkF m 61 #[.val (.int p0)] [(.int (58 : Int32)), (.int p0)])) t → Steps p.tables e below (s₁.setTop (entryFrame m #[(.int p0)] 1)) t := fun t k => by
          refine pre236 _ ?_
          show Steps p.tables e below (s₁.setTop (mkF m 37 #[.val (.int p0)] [(.int (57 : Int32)), (.int p0)])) _
          refine XS.icmpYes X0.here hx rfl (pc0 := 37) (pc' := 42) rfl (hb hby d15_37) rfl (tlt (hc237 : (57 : Int32) < p0)).2.2.1 (by decide) (by decide) ?_
          show Steps p.tables e below (s₁.setTop (mkF m 42 #[.val (.int p0)] [])) _
          refine XS.iloadN X0.here hx rfl (hb hby d15_42) rfl ?_
          show Steps p.tables e below (s₁.setTop (mkF m 43 #[.val (.int p0)] [(.int p0)])) _
          refine XS.bipush X0.here hx rfl (hb hby d15_43) ?_
          show Steps p.tables e below (s₁.setTop (mkF m 45 #[.val (.int p0)] [(.int (46 : Int32)), (.int p0)])) _
          refine XS.icmpYes X0.here hx rfl (pc0 := 45) (pc' := 50) rfl (hb hby d15_45) rfl (feq (hd238 : ¬ (p0 = (46 : Int32)))).2 (by decide) (by decide) ?_
          show Steps p.tables e below (s₁.setTop (mkF m 50 #[.val (.int p0)] [])) _
          refine XS.iloadN X0.here hx rfl (hb hby d15_50) rfl ?_
          show Steps p.tables e below (s₁.setTop (mkF m 51 #[.val (.int p0)] [(.int p0)])) _
          refine XS.bipush X0.here hx rfl (hb hby d15_51) ?_
          show Steps p.tables e below (s₁.setTop (mkF m 53 #[.val (.int p0)] [(.int (95 : Int32)), (.int p0)])) _
          refine XS.icmpYes X0.here hx rfl (pc0 := 53) (pc' := 58) rfl (hb hby d15_53) rfl (feq (hd239 : ¬ (p0 = (95 : Int32)))).2 (by decide) (by decide) ?_
          show Steps p.tables e below (s₁.setTop (mkF m 58 #[.val (.int p0)] [])) _
          refine XS.iloadN X0.here hx rfl (hb hby d15_58) rfl ?_
          show Steps p.tables e below (s₁.setTop (mkF m 59 #[.val (.int p0)] [(.int p0)])) _
          refine XS.bipush X0.here hx rfl (hb hby d15_59) ?_
          exact k
        by_cases hc241 : p0 = (58 : Int32)
        · obtain ⟨fs, hr, hrun, hended, hW, hsame⟩ := X0.leave (v := some (.int (1 : Int32))) (fun h => by rw [Bd.returns] at h; cases h)
          refine ⟨_, _, pre240 _ ?_, hrun, hended, _, _, rfl, ?_, ⟨_, rfl⟩, hW, hsame.mono (by decide) (by decide)⟩
          · show Steps p.tables e below (s₁.setTop (mkF m 61 #[.val (.int p0)] [(.int (58 : Int32)), (.int p0)])) _
            refine XS.icmpNo X0.here hx rfl (hb hby d15_61) rfl (teq (hc241 : p0 = (58 : Int32))).2 ?_
            show Steps p.tables e below (s₁.setTop (mkF m 64 #[.val (.int p0)] [])) _
            refine XS.iconst X0.here hx rfl (hb hby d15_64) ?_
            show Steps p.tables e below (s₁.setTop (mkF m 65 #[.val (.int p0)] [(.int (1 : Int32))])) _
            exact retN X0 hx (t := .boolean) Bd.returns (by simp) (hb hby d15_65) hr
          · show QrmAlw Z p0 h0 n0 _ s₁.heap _
            rw [e0]
            exact ⟨(congrArg (fun x => some (Value.int x)) (bi_t (by simp [own_ok, hc226, hd227, hc229, hc237, hd238, hd239, hc241])).symm), N0, rfl⟩
        · have hd242 : ¬ (p0 = (45 : Int32)) := by simp only [Int32.lt_iff_toInt_lt, ← Int32.toInt_inj, own_i65, own_i90, own_i97, own_i122, own_i48, own_i57, own_i46, own_i95, own_i58, own_i45] at hc226 hd227 hc229 hc237 ⊢; omega
          obtain ⟨fs, hr, hrun, hended, hW, hsame⟩ := X0.leave (v := some (.int (0 : Int32))) (fun h => by rw [Bd.returns] at h; cases h)
          refine ⟨_, _, pre240 _ ?_, hrun, hended, _, _, rfl, ?_, ⟨_, rfl⟩, hW, hsame.mono (by decide) (by decide)⟩
          · show Steps p.tables e below (s₁.setTop (mkF m 61 #[.val (.int p0)] [(.int (58 : Int32)), (.int p0)])) _
            refine XS.icmpYes X0.here hx rfl (pc0 := 61) (pc' := 66) rfl (hb hby d15_61) rfl (feq (hc241 : ¬ (p0 = (58 : Int32)))).2 (by decide) (by decide) ?_
            show Steps p.tables e below (s₁.setTop (mkF m 66 #[.val (.int p0)] [])) _
            refine XS.iloadN X0.here hx rfl (hb hby d15_66) rfl ?_
            show Steps p.tables e below (s₁.setTop (mkF m 67 #[.val (.int p0)] [(.int p0)])) _
            refine XS.bipush X0.here hx rfl (hb hby d15_67) ?_
            show Steps p.tables e below (s₁.setTop (mkF m 69 #[.val (.int p0)] [(.int (45 : Int32)), (.int p0)])) _
            refine XS.icmpYes X0.here hx rfl (pc0 := 69) (pc' := 76) rfl (hb hby d15_69) rfl (feq (hd242 : ¬ (p0 = (45 : Int32)))).2 (by decide) (by decide) ?_
            show Steps p.tables e below (s₁.setTop (mkF m 76 #[.val (.int p0)] [])) _
            refine XS.iconst X0.here hx rfl (hb hby d15_76) ?_
            show Steps p.tables e below (s₁.setTop (mkF m 77 #[.val (.int p0)] [(.int (0 : Int32))])) _
            exact retN X0 hx (t := .boolean) Bd.returns (by simp) (hb hby d15_77) hr
          · show QrmAlw Z p0 h0 n0 _ s₁.heap _
            rw [e0]
            exact ⟨(congrArg (fun x => some (Value.int x)) (bi_f (by simp [own_ok, hc226, hd227, hc229, hc237, hd238, hd239, hc241, hd242])).symm), N0, rfl⟩
      · obtain ⟨fs, hr, hrun, hended, hW, hsame⟩ := X0.leave (v := some (.int (1 : Int32))) (fun h => by rw [Bd.returns] at h; cases h)
        refine ⟨_, _, pre236 _ ?_, hrun, hended, _, _, rfl, ?_, ⟨_, rfl⟩, hW, hsame.mono (by decide) (by decide)⟩
        · show Steps p.tables e below (s₁.setTop (mkF m 37 #[.val (.int p0)] [(.int (57 : Int32)), (.int p0)])) _
          refine XS.icmpNo X0.here hx rfl (hb hby d15_37) rfl (flt (hc237 : ¬ ((57 : Int32) < p0))).2.2.1 ?_
          show Steps p.tables e below (s₁.setTop (mkF m 40 #[.val (.int p0)] [])) _
          refine XS.iconst X0.here hx rfl (hb hby d15_40) ?_
          show Steps p.tables e below (s₁.setTop (mkF m 41 #[.val (.int p0)] [(.int (1 : Int32))])) _
          exact retN X0 hx (t := .boolean) Bd.returns (by simp) (hb hby d15_41) hr
        · show QrmAlw Z p0 h0 n0 _ s₁.heap _
          rw [e0]
          exact ⟨(congrArg (fun x => some (Value.int x)) (bi_t (by simp [own_ok, hc226, hd227, hc229, hc237])).symm), N0, rfl⟩
  · have pre243 : ∀ t, Steps p.tables e below (s₁.setTop (mkF m 9 #[.val (.int p0)] [(.int (90 : Int32)), (.int p0)])) t → Steps p.tables e below (s₁.setTop (entryFrame m #[(.int p0)] 1)) t := fun t k => by
      refine pre225 _ ?_
      show Steps p.tables e below (s₁.setTop (mkF m 3 #[.val (.int p0)] [(.int (65 : Int32)), (.int p0)])) _
      refine XS.icmpNo X0.here hx rfl (hb hby d15_3) rfl (flt (hc226 : ¬ (p0 < (65 : Int32)))).1 ?_
      show Steps p.tables e below (s₁.setTop (mkF m 6 #[.val (.int p0)] [])) _
      refine XS.iloadN X0.here hx rfl (hb hby d15_6) rfl ?_
      show Steps p.tables e below (s₁.setTop (mkF m 7 #[.val (.int p0)] [(.int p0)])) _
      refine XS.bipush X0.here hx rfl (hb hby d15_7) ?_
      exact k
    by_cases hc244 : (90 : Int32) < p0
    · have pre245 : ∀ t, Steps p.tables e below (s₁.setTop (mkF m 17 #[.val (.int p0)] [(.int (97 : Int32)), (.int p0)])) t → Steps p.tables e below (s₁.setTop (entryFrame m #[(.int p0)] 1)) t := fun t k => by
        refine pre243 _ ?_
        show Steps p.tables e below (s₁.setTop (mkF m 9 #[.val (.int p0)] [(.int (90 : Int32)), (.int p0)])) _
        refine XS.icmpYes X0.here hx rfl (pc0 := 9) (pc' := 14) rfl (hb hby d15_9) rfl (tlt (hc244 : (90 : Int32) < p0)).2.2.1 (by decide) (by decide) ?_
        show Steps p.tables e below (s₁.setTop (mkF m 14 #[.val (.int p0)] [])) _
        refine XS.iloadN X0.here hx rfl (hb hby d15_14) rfl ?_
        show Steps p.tables e below (s₁.setTop (mkF m 15 #[.val (.int p0)] [(.int p0)])) _
        refine XS.bipush X0.here hx rfl (hb hby d15_15) ?_
        exact k
      by_cases hc246 : p0 < (97 : Int32)
      · have hd247 : ¬ (p0 < (48 : Int32)) := by simp only [Int32.lt_iff_toInt_lt, ← Int32.toInt_inj, own_i65, own_i90, own_i97, own_i122, own_i48, own_i57, own_i46, own_i95, own_i58, own_i45] at hc226 hc244 hc246 ⊢; omega
        have hd248 : ((57 : Int32) < p0) := by simp only [Int32.lt_iff_toInt_lt, ← Int32.toInt_inj, own_i65, own_i90, own_i97, own_i122, own_i48, own_i57, own_i46, own_i95, own_i58, own_i45] at hc226 hc244 hc246 hd247 ⊢; omega
        have hd249 : ¬ (p0 = (46 : Int32)) := by simp only [Int32.lt_iff_toInt_lt, ← Int32.toInt_inj, own_i65, own_i90, own_i97, own_i122, own_i48, own_i57, own_i46, own_i95, own_i58, own_i45] at hc226 hc244 hc246 hd247 hd248 ⊢; omega
        have pre250 : ∀ t, Steps p.tables e below (s₁.setTop (mkF m 53 #[.val (.int p0)] [(.int (95 : Int32)), (.int p0)])) t → Steps p.tables e below (s₁.setTop (entryFrame m #[(.int p0)] 1)) t := fun t k => by
          refine pre245 _ ?_
          show Steps p.tables e below (s₁.setTop (mkF m 17 #[.val (.int p0)] [(.int (97 : Int32)), (.int p0)])) _
          refine XS.icmpYes X0.here hx rfl (pc0 := 17) (pc' := 28) rfl (hb hby d15_17) rfl (tlt (hc246 : p0 < (97 : Int32))).1 (by decide) (by decide) ?_
          show Steps p.tables e below (s₁.setTop (mkF m 28 #[.val (.int p0)] [])) _
          refine XS.iloadN X0.here hx rfl (hb hby d15_28) rfl ?_
          show Steps p.tables e below (s₁.setTop (mkF m 29 #[.val (.int p0)] [(.int p0)])) _
          refine XS.bipush X0.here hx rfl (hb hby d15_29) ?_
          show Steps p.tables e below (s₁.setTop (mkF m 31 #[.val (.int p0)] [(.int (48 : Int32)), (.int p0)])) _
          refine XS.icmpNo X0.here hx rfl (hb hby d15_31) rfl (flt (hd247 : ¬ (p0 < (48 : Int32)))).1 ?_
          show Steps p.tables e below (s₁.setTop (mkF m 34 #[.val (.int p0)] [])) _
          refine XS.iloadN X0.here hx rfl (hb hby d15_34) rfl ?_
          show Steps p.tables e below (s₁.setTop (mkF m 35 #[.val (.int p0)] [(.int p0)])) _
          refine XS.bipush X0.here hx rfl (hb hby d15_35) ?_
          show Steps p.tables e below (s₁.setTop (mkF m 37 #[.val (.int p0)] [(.int (57 : Int32)), (.int p0)])) _
          refine XS.icmpYes X0.here hx rfl (pc0 := 37) (pc' := 42) rfl (hb hby d15_37) rfl (tlt (hd248 : (57 : Int32) < p0)).2.2.1 (by decide) (by decide) ?_
          show Steps p.tables e below (s₁.setTop (mkF m 42 #[.val (.int p0)] [])) _
          refine XS.iloadN X0.here hx rfl (hb hby d15_42) rfl ?_
          show Steps p.tables e below (s₁.setTop (mkF m 43 #[.val (.int p0)] [(.int p0)])) _
          refine XS.bipush X0.here hx rfl (hb hby d15_43) ?_
          show Steps p.tables e below (s₁.setTop (mkF m 45 #[.val (.int p0)] [(.int (46 : Int32)), (.int p0)])) _
          refine XS.icmpYes X0.here hx rfl (pc0 := 45) (pc' := 50) rfl (hb hby d15_45) rfl (feq (hd249 : ¬ (p0 = (46 : Int32)))).2 (by decide) (by decide) ?_
          show Steps p.tables e below (s₁.setTop (mkF m 50 #[.val (.int p0)] [])) _
          refine XS.iloadN X0.here hx rfl (hb hby d15_50) rfl ?_
          show Steps p.tables e below (s₁.setTop (mkF m 51 #[.val (.int p0)] [(.int p0)])) _
          refine XS.bipush X0.here hx rfl (hb hby d15_51) ?_
          exact k
        by_cases hc251 : p0 = (95 : Int32)
        · obtain ⟨fs, hr, hrun, hended, hW, hsame⟩ := X0.leave (v := some (.int (1 : Int32))) (fun h => by rw [Bd.returns] at h; cases h)
          refine ⟨_, _, pre250 _ ?_, hrun, hended, _, _, rfl, ?_, ⟨_, rfl⟩, hW, hsame.mono (by decide) (by decide)⟩
          · show Steps p.tables e below (s₁.setTop (mkF m 53 #[.val (.int p0)] [(.int (95 : Int32)), (.int p0)])) _
            refine XS.icmpNo X0.here hx rfl (hb hby d15_53) rfl (teq (hc251 : p0 = (95 : Int32))).2 ?_
            show Steps p.tables e below (s₁.setTop (mkF m 56 #[.val (.int p0)] [])) _
            refine XS.iconst X0.here hx rfl (hb hby d15_56) ?_
            show Steps p.tables e below (s₁.setTop (mkF m 57 #[.val (.int p0)] [(.int (1 : Int32))])) _
            exact retN X0 hx (t := .boolean) Bd.returns (by simp) (hb hby d15_57) hr
          · show QrmAlw Z p0 h0 n0 _ s₁.heap _
            rw [e0]
            exact ⟨(congrArg (fun x => some (Value.int x)) (bi_t (by simp [own_ok, hc226, hc244, hc246, hd247, hd248, hd249, hc251])).symm), N0, rfl⟩
        · have hd252 : ¬ (p0 = (58 : Int32)) := by simp only [Int32.lt_iff_toInt_lt, ← Int32.toInt_inj, own_i65, own_i90, own_i97, own_i122, own_i48, own_i57, own_i46, own_i95, own_i58, own_i45] at hc226 hc244 hc246 hd247 hd248 ⊢; omega
          have hd253 : ¬ (p0 = (45 : Int32)) := by simp only [Int32.lt_iff_toInt_lt, ← Int32.toInt_inj, own_i65, own_i90, own_i97, own_i122, own_i48, own_i57, own_i46, own_i95, own_i58, own_i45] at hc226 hc244 hc246 hd247 hd248 ⊢; omega
          obtain ⟨fs, hr, hrun, hended, hW, hsame⟩ := X0.leave (v := some (.int (0 : Int32))) (fun h => by rw [Bd.returns] at h; cases h)
          refine ⟨_, _, pre250 _ ?_, hrun, hended, _, _, rfl, ?_, ⟨_, rfl⟩, hW, hsame.mono (by decide) (by decide)⟩
          · show Steps p.tables e below (s₁.setTop (mkF m 53 #[.val (.int p0)] [(.int (95 : Int32)), (.int p0)])) _
            refine XS.icmpYes X0.here hx rfl (pc0 := 53) (pc' := 58) rfl (hb hby d15_53) rfl (feq (hc251 : ¬ (p0 = (95 : Int32)))).2 (by decide) (by decide) ?_
            show Steps p.tables e below (s₁.setTop (mkF m 58 #[.val (.int p0)] [])) _
            refine XS.iloadN X0.here hx rfl (hb hby d15_58) rfl ?_
            show Steps p.tables e below (s₁.setTop (mkF m 59 #[.val (.int p0)] [(.int p0)])) _
            refine XS.bipush X0.here hx rfl (hb hby d15_59) ?_
            show Steps p.tables e below (s₁.setTop (mkF m 61 #[.val (.int p0)] [(.int (58 : Int32)), (.int p0)])) _
            refine XS.icmpYes X0.here hx rfl (pc0 := 61) (pc' := 66) rfl (hb hby d15_61) rfl (feq (hd252 : ¬ (p0 = (58 : Int32)))).2 (by decide) (by decide) ?_
            show Steps p.tables e below (s₁.setTop (mkF m 66 #[.val (.int p0)] [])) _
            refine XS.iloadN X0.here hx rfl (hb hby d15_66) rfl ?_
            show Steps p.tables e below (s₁.setTop (mkF m 67 #[.val (.int p0)] [(.int p0)])) _
            refine XS.bipush X0.here hx rfl (hb hby d15_67) ?_
            show Steps p.tables e below (s₁.setTop (mkF m 69 #[.val (.int p0)] [(.int (45 : Int32)), (.int p0)])) _
            refine XS.icmpYes X0.here hx rfl (pc0 := 69) (pc' := 76) rfl (hb hby d15_69) rfl (feq (hd253 : ¬ (p0 = (45 : Int32)))).2 (by decide) (by decide) ?_
            show Steps p.tables e below (s₁.setTop (mkF m 76 #[.val (.int p0)] [])) _
            refine XS.iconst X0.here hx rfl (hb hby d15_76) ?_
            show Steps p.tables e below (s₁.setTop (mkF m 77 #[.val (.int p0)] [(.int (0 : Int32))])) _
            exact retN X0 hx (t := .boolean) Bd.returns (by simp) (hb hby d15_77) hr
          · show QrmAlw Z p0 h0 n0 _ s₁.heap _
            rw [e0]
            exact ⟨(congrArg (fun x => some (Value.int x)) (bi_f (by simp [own_ok, hc226, hc244, hc246, hd247, hd248, hd249, hc251, hd252, hd253])).symm), N0, rfl⟩
      · have pre254 : ∀ t, Steps p.tables e below (s₁.setTop (mkF m 23 #[.val (.int p0)] [(.int (122 : Int32)), (.int p0)])) t → Steps p.tables e below (s₁.setTop (entryFrame m #[(.int p0)] 1)) t := fun t k => by
          refine pre245 _ ?_
          show Steps p.tables e below (s₁.setTop (mkF m 17 #[.val (.int p0)] [(.int (97 : Int32)), (.int p0)])) _
          refine XS.icmpNo X0.here hx rfl (hb hby d15_17) rfl (flt (hc246 : ¬ (p0 < (97 : Int32)))).1 ?_
          show Steps p.tables e below (s₁.setTop (mkF m 20 #[.val (.int p0)] [])) _
          refine XS.iloadN X0.here hx rfl (hb hby d15_20) rfl ?_
          show Steps p.tables e below (s₁.setTop (mkF m 21 #[.val (.int p0)] [(.int p0)])) _
          refine XS.bipush X0.here hx rfl (hb hby d15_21) ?_
          exact k
        by_cases hc255 : (122 : Int32) < p0
        · have hd256 : ¬ (p0 < (48 : Int32)) := by simp only [Int32.lt_iff_toInt_lt, ← Int32.toInt_inj, own_i65, own_i90, own_i97, own_i122, own_i48, own_i57, own_i46, own_i95, own_i58, own_i45] at hc226 hc244 hc246 hc255 ⊢; omega
          have hd257 : ((57 : Int32) < p0) := by simp only [Int32.lt_iff_toInt_lt, ← Int32.toInt_inj, own_i65, own_i90, own_i97, own_i122, own_i48, own_i57, own_i46, own_i95, own_i58, own_i45] at hc226 hc244 hc246 hc255 hd256 ⊢; omega
          have hd258 : ¬ (p0 = (46 : Int32)) := by simp only [Int32.lt_iff_toInt_lt, ← Int32.toInt_inj, own_i65, own_i90, own_i97, own_i122, own_i48, own_i57, own_i46, own_i95, own_i58, own_i45] at hc226 hc244 hc246 hc255 hd256 hd257 ⊢; omega
          have hd259 : ¬ (p0 = (95 : Int32)) := by simp only [Int32.lt_iff_toInt_lt, ← Int32.toInt_inj, own_i65, own_i90, own_i97, own_i122, own_i48, own_i57, own_i46, own_i95, own_i58, own_i45] at hc226 hc244 hc246 hc255 hd256 hd257 ⊢; omega
          have hd260 : ¬ (p0 = (58 : Int32)) := by simp only [Int32.lt_iff_toInt_lt, ← Int32.toInt_inj, own_i65, own_i90, own_i97, own_i122, own_i48, own_i57, own_i46, own_i95, own_i58, own_i45] at hc226 hc244 hc246 hc255 hd256 hd257 ⊢; omega
          have hd261 : ¬ (p0 = (45 : Int32)) := by simp only [Int32.lt_iff_toInt_lt, ← Int32.toInt_inj, own_i65, own_i90, own_i97, own_i122, own_i48, own_i57, own_i46, own_i95, own_i58, own_i45] at hc226 hc244 hc246 hc255 hd256 hd257 ⊢; omega
          obtain ⟨fs, hr, hrun, hended, hW, hsame⟩ := X0.leave (v := some (.int (0 : Int32))) (fun h => by rw [Bd.returns] at h; cases h)
          refine ⟨_, _, pre254 _ ?_, hrun, hended, _, _, rfl, ?_, ⟨_, rfl⟩, hW, hsame.mono (by decide) (by decide)⟩
          · show Steps p.tables e below (s₁.setTop (mkF m 23 #[.val (.int p0)] [(.int (122 : Int32)), (.int p0)])) _
            refine XS.icmpYes X0.here hx rfl (pc0 := 23) (pc' := 28) rfl (hb hby d15_23) rfl (tlt (hc255 : (122 : Int32) < p0)).2.2.1 (by decide) (by decide) ?_
            show Steps p.tables e below (s₁.setTop (mkF m 28 #[.val (.int p0)] [])) _
            refine XS.iloadN X0.here hx rfl (hb hby d15_28) rfl ?_
            show Steps p.tables e below (s₁.setTop (mkF m 29 #[.val (.int p0)] [(.int p0)])) _
            refine XS.bipush X0.here hx rfl (hb hby d15_29) ?_
            show Steps p.tables e below (s₁.setTop (mkF m 31 #[.val (.int p0)] [(.int (48 : Int32)), (.int p0)])) _
            refine XS.icmpNo X0.here hx rfl (hb hby d15_31) rfl (flt (hd256 : ¬ (p0 < (48 : Int32)))).1 ?_
            show Steps p.tables e below (s₁.setTop (mkF m 34 #[.val (.int p0)] [])) _
            refine XS.iloadN X0.here hx rfl (hb hby d15_34) rfl ?_
            show Steps p.tables e below (s₁.setTop (mkF m 35 #[.val (.int p0)] [(.int p0)])) _
            refine XS.bipush X0.here hx rfl (hb hby d15_35) ?_
            show Steps p.tables e below (s₁.setTop (mkF m 37 #[.val (.int p0)] [(.int (57 : Int32)), (.int p0)])) _
            refine XS.icmpYes X0.here hx rfl (pc0 := 37) (pc' := 42) rfl (hb hby d15_37) rfl (tlt (hd257 : (57 : Int32) < p0)).2.2.1 (by decide) (by decide) ?_
            show Steps p.tables e below (s₁.setTop (mkF m 42 #[.val (.int p0)] [])) _
            refine XS.iloadN X0.here hx rfl (hb hby d15_42) rfl ?_
            show Steps p.tables e below (s₁.setTop (mkF m 43 #[.val (.int p0)] [(.int p0)])) _
            refine XS.bipush X0.here hx rfl (hb hby d15_43) ?_
            show Steps p.tables e below (s₁.setTop (mkF m 45 #[.val (.int p0)] [(.int (46 : Int32)), (.int p0)])) _
            refine XS.icmpYes X0.here hx rfl (pc0 := 45) (pc' := 50) rfl (hb hby d15_45) rfl (feq (hd258 : ¬ (p0 = (46 : Int32)))).2 (by decide) (by decide) ?_
            show Steps p.tables e below (s₁.setTop (mkF m 50 #[.val (.int p0)] [])) _
            refine XS.iloadN X0.here hx rfl (hb hby d15_50) rfl ?_
            show Steps p.tables e below (s₁.setTop (mkF m 51 #[.val (.int p0)] [(.int p0)])) _
            refine XS.bipush X0.here hx rfl (hb hby d15_51) ?_
            show Steps p.tables e below (s₁.setTop (mkF m 53 #[.val (.int p0)] [(.int (95 : Int32)), (.int p0)])) _
            refine XS.icmpYes X0.here hx rfl (pc0 := 53) (pc' := 58) rfl (hb hby d15_53) rfl (feq (hd259 : ¬ (p0 = (95 : Int32)))).2 (by decide) (by decide) ?_
            show Steps p.tables e below (s₁.setTop (mkF m 58 #[.val (.int p0)] [])) _
            refine XS.iloadN X0.here hx rfl (hb hby d15_58) rfl ?_
            show Steps p.tables e below (s₁.setTop (mkF m 59 #[.val (.int p0)] [(.int p0)])) _
            refine XS.bipush X0.here hx rfl (hb hby d15_59) ?_
            show Steps p.tables e below (s₁.setTop (mkF m 61 #[.val (.int p0)] [(.int (58 : Int32)), (.int p0)])) _
            refine XS.icmpYes X0.here hx rfl (pc0 := 61) (pc' := 66) rfl (hb hby d15_61) rfl (feq (hd260 : ¬ (p0 = (58 : Int32)))).2 (by decide) (by decide) ?_
            show Steps p.tables e below (s₁.setTop (mkF m 66 #[.val (.int p0)] [])) _
            refine XS.iloadN X0.here hx rfl (hb hby d15_66) rfl ?_
            show Steps p.tables e below (s₁.setTop (mkF m 67 #[.val (.int p0)] [(.int p0)])) _
            refine XS.bipush X0.here hx rfl (hb hby d15_67) ?_
            show Steps p.tables e below (s₁.setTop (mkF m 69 #[.val (.int p0)] [(.int (45 : Int32)), (.int p0)])) _
            refine XS.icmpYes X0.here hx rfl (pc0 := 69) (pc' := 76) rfl (hb hby d15_69) rfl (feq (hd261 : ¬ (p0 = (45 : Int32)))).2 (by decide) (by decide) ?_
            show Steps p.tables e below (s₁.setTop (mkF m 76 #[.val (.int p0)] [])) _
            refine XS.iconst X0.here hx rfl (hb hby d15_76) ?_
            show Steps p.tables e below (s₁.setTop (mkF m 77 #[.val (.int p0)] [(.int (0 : Int32))])) _
            exact retN X0 hx (t := .boolean) Bd.returns (by simp) (hb hby d15_77) hr
          · show QrmAlw Z p0 h0 n0 _ s₁.heap _
            rw [e0]
            exact ⟨(congrArg (fun x => some (Value.int x)) (bi_f (by simp [own_ok, hc226, hc244, hc246, hc255, hd256, hd257, hd258, hd259, hd260, hd261])).symm), N0, rfl⟩
        · obtain ⟨fs, hr, hrun, hended, hW, hsame⟩ := X0.leave (v := some (.int (1 : Int32))) (fun h => by rw [Bd.returns] at h; cases h)
          refine ⟨_, _, pre254 _ ?_, hrun, hended, _, _, rfl, ?_, ⟨_, rfl⟩, hW, hsame.mono (by decide) (by decide)⟩
          · show Steps p.tables e below (s₁.setTop (mkF m 23 #[.val (.int p0)] [(.int (122 : Int32)), (.int p0)])) _
            refine XS.icmpNo X0.here hx rfl (hb hby d15_23) rfl (flt (hc255 : ¬ ((122 : Int32) < p0))).2.2.1 ?_
            show Steps p.tables e below (s₁.setTop (mkF m 26 #[.val (.int p0)] [])) _
            refine XS.iconst X0.here hx rfl (hb hby d15_26) ?_
            show Steps p.tables e below (s₁.setTop (mkF m 27 #[.val (.int p0)] [(.int (1 : Int32))])) _
            exact retN X0 hx (t := .boolean) Bd.returns (by simp) (hb hby d15_27) hr
          · show QrmAlw Z p0 h0 n0 _ s₁.heap _
            rw [e0]
            exact ⟨(congrArg (fun x => some (Value.int x)) (bi_t (by simp [own_ok, hc226, hc244, hc246, hc255])).symm), N0, rfl⟩
    · obtain ⟨fs, hr, hrun, hended, hW, hsame⟩ := X0.leave (v := some (.int (1 : Int32))) (fun h => by rw [Bd.returns] at h; cases h)
      refine ⟨_, _, pre243 _ ?_, hrun, hended, _, _, rfl, ?_, ⟨_, rfl⟩, hW, hsame.mono (by decide) (by decide)⟩
      · show Steps p.tables e below (s₁.setTop (mkF m 9 #[.val (.int p0)] [(.int (90 : Int32)), (.int p0)])) _
        refine XS.icmpNo X0.here hx rfl (hb hby d15_9) rfl (flt (hc244 : ¬ ((90 : Int32) < p0))).2.2.1 ?_
        show Steps p.tables e below (s₁.setTop (mkF m 12 #[.val (.int p0)] [])) _
        refine XS.iconst X0.here hx rfl (hb hby d15_12) ?_
        show Steps p.tables e below (s₁.setTop (mkF m 13 #[.val (.int p0)] [(.int (1 : Int32))])) _
        exact retN X0 hx (t := .boolean) Bd.returns (by simp) (hb hby d15_13) hr
      · show QrmAlw Z p0 h0 n0 _ s₁.heap _
        rw [e0]
        exact ⟨(congrArg (fun x => some (Value.int x)) (bi_t (by simp [own_ok, hc226, hc244])).symm), N0, rfl⟩
theorem d14_0 : decode method_3_code 0 = .ok (.iload_n 2, 1) := by decide +kernel
theorem d14_1 : decode method_3_code 1 = .ok (.iload_n 1, 1) := by decide +kernel
theorem d14_2 : decode method_3_code 2 = .ok (.if_icmp .ge 12, 3) := by decide +kernel
theorem d14_5 : decode method_3_code 5 = .ok (.aload_n 0, 1) := by decide +kernel
theorem d14_6 : decode method_3_code 6 = .ok (.iload_n 2, 1) := by decide +kernel
theorem d14_7 : decode method_3_code 7 = .ok (.caload, 1) := by decide +kernel
theorem d14_8 : decode method_3_code 8 = .ok (.invokestatic 33, 3) := by decide +kernel
theorem pd_12 : parseMethodDescriptor "(C)Z" = some ⟨[.char], some .boolean⟩ := by decide +kernel
theorem d14_11 : decode method_3_code 11 = .ok (.ifCond .eq 7, 3) := by decide +kernel
theorem d14_14 : decode method_3_code 14 = .ok (.iconst 1, 1) := by decide +kernel
theorem d14_15 : decode method_3_code 15 = .ok (.goto 4, 3) := by decide +kernel
theorem d14_19 : decode method_3_code 19 = .ok (.ireturn, 1) := by decide +kernel
theorem d14_18 : decode method_3_code 18 = .ok (.iconst 0, 1) := by decide +kernel
theorem ef_rmOka (m : MethodId) (o0 : Addr) (p2 : Int32) (n : Nat) : entryFrame m #[(.ref o0), (.int (Int32.ofNat n)), (.int p2)] 3 = mkF m 0 #[.val (.ref o0), .val (.int (Int32.ofNat n)), .val (.int p2)] [] := by first | (simp [entryFrame, mkF, argsToLocals, Value.category]; done) | rfl
def QrmOka (Z : State) (o0 : Addr) (p2 : Int32) (n : Nat) (kk : Nat) (kc : ClassId) (C : List Int32) (h0 : Heap) (n0 : Nat) (v : Option Value) (h : Heap) (L : List Loc) : Prop := v = some (.int (bi (kk < n → own_ok (C.getD kk 0)))) ∧ Fr n0 L ∧ h = h0
set_option maxRecDepth 65536 in
set_option maxHeartbeats 40000000 in
theorem rmOka (l : Launch) (Z : State) (a0 : Array Value) (hw : ∀ d ∈ tables_1, d.before a0 Z = true) (ws : List Jvm.Cond) (o0 : Addr) (p2 : Int32) (n : Nat) (kk : Nat) (kc : ClassId) (C : List Int32) (h0 : Heap) (n0 : Nat) (Z0 : n0 ≤ h0.size) (H0 : Arv Z h0 o0 kc .char (12 : Int32) (C.map Value.int) (.int (0 : Int32))) (hn : n ≤ 12) (hk : p2 = (Int32.ofNat kk)) (hk2 : kk < 12) (hC : C.length = 12) :
    MetFree l (⟨"com/example/delay_buckets/delaybuckets/NamesIsValidPinLaw", "okAt", "([CII)Z"⟩ : MethodName) (head1 (Jvm.Cond.code (⟨"com/example/delay_buckets/delaybuckets/NamesIsValidPinLaw", "okAt", "([CII)Z"⟩ : MethodName) method_3_code 3 (some .boolean) :: ws) ({ frames := 1, cells := 0, slots := 0, locals := 12 } : Room)) (fun a U => a = #[(.ref o0), (.int (Int32.ofNat n)), (.int p2)] ∧ Z.Warmed39 U.vm ∧ U.heap = h0) (fun _ _ _ _ _ => True) (fun _ U o U' => ∃ v L, o = .returned v ∧ QrmOka Z o0 p2 n kk kc C h0 n0 v U'.heap L ∧ FrameEnd U o U' L ({ frames := 1, cells := 0, slots := 0, locals := 12 } : Room).cells ({ frames := 1, cells := 0, slots := 0, locals := 12 } : Room).slots) := by
  refine MetFree.of_bodySF (plainFor_of_name pn_15) hisR ?_
  intro p e s m args below meth c s₁ Bd hml0 hP hK
  obtain ⟨rfl, hZ, hh⟩ := hP
  have hx := Bd.exec
  have hby := Bd.bytes
  have hml : c.maxLocals = 3 := hml0
  have hown : s.vm.findClass "com/example/delay_buckets/delaybuckets/NamesIsValidPinLaw" = some m.cls := findClass_of_methodNamed Bd.named
  have hnm := (name_of_methodNamed Bd.named Bd.method).1
  have X0 : Stand p l e ({ frames := 1, cells := 0, slots := 0, locals := 12 } : Room) s m #[(.ref o0), (.int (Int32.ofNat n)), (.int p2)] below meth c s₁ [] 0 0 := Stand.of_body Bd
  have e0 : s₁.heap = h0 := by rw [← hh, Bd.state]; rfl
  have N0 := Fr.nil n0
  have pre0 : ∀ t, Steps p.tables e below (s₁.setTop (mkF m 0 #[.val (.ref o0), .val (.int (Int32.ofNat n)), .val (.int p2)] [])) t → Steps p.tables e below (s₁.setTop (entryFrame m #[(.ref o0), (.int (Int32.ofNat n)), (.int p2)] 3)) t := fun t k => castTop (ef_rmOka m o0 p2 n) k
  have z262 : @LT.lt Nat _ o0 (Array.size h0) := H0.lt
  have KC0 : Keep h0 h0 [] := Keep.refl _ _
  have pre263 : ∀ t, Steps p.tables e below (s₁.setTop (mkF m 0 #[.val (.ref o0), .val (.int (Int32.ofNat n)), .val (.int (Int32.ofNat kk))] [])) t → Steps p.tables e below (s₁.setTop (entryFrame m #[(.ref o0), (.int (Int32.ofNat n)), (.int p2)] 3)) t := fun t k => pre0 t (by rw [hk]; exact k)
  have pre264 : ∀ t, Steps p.tables e below (s₁.setTop (mkF m 2 #[.val (.ref o0), .val (.int (Int32.ofNat n)), .val (.int (Int32.ofNat kk))] [(.int (Int32.ofNat n)), (.int (Int32.ofNat kk))])) t → Steps p.tables e below (s₁.setTop (entryFrame m #[(.ref o0), (.int (Int32.ofNat n)), (.int p2)] 3)) t := fun t k => by
    refine pre263 _ ?_
    show Steps p.tables e below (s₁.setTop (mkF m 0 #[.val (.ref o0), .val (.int (Int32.ofNat n)), .val (.int (Int32.ofNat kk))] [])) _
    refine XS.iloadN X0.here hx rfl (hb hby d14_0) rfl ?_
    show Steps p.tables e below (s₁.setTop (mkF m 1 #[.val (.ref o0), .val (.int (Int32.ofNat n)), .val (.int (Int32.ofNat kk))] [(.int (Int32.ofNat kk))])) _
    refine XS.iloadN X0.here hx rfl (hb hby d14_1) rfl ?_
    exact k
  by_cases hc265 : (Int32.ofNat kk) < (Int32.ofNat n)
  · obtain ⟨cl266, Ar266, q266, S266, N266', H266, G266⟩ := id H0
    have hin266 : ¬ ((Int32.ofNat kk) < 0 ∨ cl266.slots.size ≤ ((Int32.ofNat kk)).toNatClampNeg) := inb_of S266 (own_in (b := 12) (by omega) (by omega))
    have hat266 : cl266.slots[((Int32.ofNat kk)).toNatClampNeg]? = some (.int (C.getD kk 0)) := H266.at hin266 (by rw [own_tn (by omega)]; simp [List.getD_eq_getElem?_getD, show kk < C.length from by omega])
    obtain ⟨_, _, ⟨T267, L267, k267, n267⟩, -, X267, ⟨Lc267, hQ267, l267, y267, z267⟩, st267⟩ := Jvm.LawKit.callS X0 hx (y := (⟨"com/example/delay_buckets/delaybuckets/NamesIsValidPinLaw", "allowed", "(C)Z"⟩ : MethodName)) hown (mvT hZ (hw _ (List.mem_of_getElem? (i := 75) rfl))) (mvT hZ (hw _ (List.mem_of_getElem? (i := 76) rfl))) (mvT hZ (hw _ (List.mem_of_getElem? (i := 73) rfl))) (mvT hZ (hw _ (List.mem_of_getElem? (i := 77) rfl))) (by decide) (backOf (W := 0) (rmAlw l Z a0 hw [] (C.getD kk 0) h0 n0 (by omega)) hZ (hw _ (List.mem_of_getElem? (i := 77) rfl)) (hw _ (List.mem_of_getElem? (i := 73) rfl)) (by decide) (by decide)) (g := (mkF m 8 #[.val (.ref o0), .val (.int (Int32.ofNat n)), .val (.int (Int32.ofNat kk))] [(.int (C.getD kk 0))])) rfl (by rw [hml]; rfl) (argsL := [(.int (C.getD kk 0))]) (rest := []) (lenOf pd_12 rfl) rfl (by show 2 * 0 + _ ≤ _; exact Nat.le_of_eq rfl) (hb hby d14_8) (fun _ _ => ⟨rfl, e0, (by decide : 0 + 0 ≤ _), (by decide : 0 + 0 ≤ _)⟩)
    dsimp only [Pt.U, Pt.locs, Pt.cells, Pt.slots] at X267 l267 y267 z267 st267 hQ267
    subst l267 y267 z267
    obtain ⟨rfl, N267q, e267⟩ := hQ267
    have N267 := Fr.app N0 N267q
    have pre268 : ∀ t, Steps p.tables e below (T267.setTop (mkF m 11 #[.val (.ref o0), .val (.int (Int32.ofNat n)), .val (.int (Int32.ofNat kk))] [(.int (bi (own_ok (C.getD kk 0))))])) t → Steps p.tables e below (s₁.setTop (entryFrame m #[(.ref o0), (.int (Int32.ofNat n)), (.int p2)] 3)) t := fun t k => by
      refine pre264 _ ?_
      show Steps p.tables e below (s₁.setTop (mkF m 2 #[.val (.ref o0), .val (.int (Int32.ofNat n)), .val (.int (Int32.ofNat kk))] [(.int (Int32.ofNat n)), (.int (Int32.ofNat kk))])) _
      refine XS.icmpNo X0.here hx rfl (hb hby d14_2) rfl (tlt (hc265 : (Int32.ofNat kk) < (Int32.ofNat n))).2.1 ?_
      show Steps p.tables e below (s₁.setTop (mkF m 5 #[.val (.ref o0), .val (.int (Int32.ofNat n)), .val (.int (Int32.ofNat kk))] [])) _
      refine XS.aloadN X0.here hx rfl (hb hby d14_5) rfl rfl ?_
      show Steps p.tables e below (s₁.setTop (mkF m 6 #[.val (.ref o0), .val (.int (Int32.ofNat n)), .val (.int (Int32.ofNat kk))] [(.ref o0)])) _
      refine XS.iloadN X0.here hx rfl (hb hby d14_6) rfl ?_
      show Steps p.tables e below (s₁.setTop (mkF m 7 #[.val (.ref o0), .val (.int (Int32.ofNat n)), .val (.int (Int32.ofNat kk))] [(.int (Int32.ofNat kk)), (.ref o0)])) _
      refine X0.caload hx (j := (Int32.ofNat kk)) (v := (.int (C.getD kk 0))) (by rw [e0]; exact Ar266.1) (State.isArrayOf_alike hZ.alike Ar266.2.1) Ar266.2.2 hin266 hat266 (g := (mkF m 7 #[.val (.ref o0), .val (.int (Int32.ofNat n)), .val (.int (Int32.ofNat kk))] [(.int (Int32.ofNat kk)), (.ref o0)])) rfl rfl (hb hby d14_7) _ ?_
      show Steps p.tables e below (s₁.setTop (mkF m 8 #[.val (.ref o0), .val (.int (Int32.ofNat n)), .val (.int (Int32.ofNat kk))] [(.int (C.getD kk 0))])) _
      refine st267 _ ?_
      exact k
    by_cases hc269 : own_ok (C.getD kk 0)
    · obtain ⟨fs, hr, hrun, hended, hW, hsame⟩ := X267.leave (v := some (.int (1 : Int32))) (fun h => by rw [Bd.returns] at h; cases h)
      refine ⟨_, _, pre268 _ ?_, hrun, hended, _, _, rfl, ?_, ⟨_, rfl⟩, hW, hsame.mono (by decide) (by decide)⟩
      · show Steps p.tables e below (T267.setTop (mkF m 11 #[.val (.ref o0), .val (.int (Int32.ofNat n)), .val (.int (Int32.ofNat kk))] [(.int (bi (own_ok (C.getD kk 0))))])) _
        refine XS.ifNo X267.here hx rfl (hb hby d14_11) rfl ((if0 _ _).trans (feq ((bi_n hc269) : ¬ ((bi (own_ok (C.getD kk 0))) = (0 : Int32)))).1) ?_
        show Steps p.tables e below (T267.setTop (mkF m 14 #[.val (.ref o0), .val (.int (Int32.ofNat n)), .val (.int (Int32.ofNat kk))] [])) _
        refine XS.iconst X267.here hx rfl (hb hby d14_14) ?_
        show Steps p.tables e below (T267.setTop (mkF m 15 #[.val (.ref o0), .val (.int (Int32.ofNat n)), .val (.int (Int32.ofNat kk))] [(.int (1 : Int32))])) _
        refine XS.goto X267.here hx rfl (pc0 := 15) (pc' := 19) rfl (hb hby d14_15) (by decide) (by decide) ?_
        show Steps p.tables e below (T267.setTop (mkF m 19 #[.val (.ref o0), .val (.int (Int32.ofNat n)), .val (.int (Int32.ofNat kk))] [(.int (1 : Int32))])) _
        exact retN X267 hx (t := .boolean) Bd.returns (by simp) (hb hby d14_19) hr
      · show QrmOka Z o0 p2 n kk kc C h0 n0 _ T267.heap _
        rw [e267]
        exact ⟨(congrArg (fun x => some (Value.int x)) (bi_t (fun _ => hc269)).symm), N267, rfl⟩
    · obtain ⟨fs, hr, hrun, hended, hW, hsame⟩ := X267.leave (v := some (.int (0 : Int32))) (fun h => by rw [Bd.returns] at h; cases h)
      refine ⟨_, _, pre268 _ ?_, hrun, hended, _, _, rfl, ?_, ⟨_, rfl⟩, hW, hsame.mono (by decide) (by decide)⟩
      · show Steps p.tables e below (T267.setTop (mkF m 11 #[.val (.ref o0), .val (.int (Int32.ofNat n)), .val (.int (Int32.ofNat kk))] [(.int (bi (own_ok (C.getD kk 0))))])) _
        refine XS.ifYes X267.here hx rfl (pc0 := 11) (pc' := 18) rfl (hb hby d14_11) rfl ((if0 _ _).trans (teq ((bi_f hc269) : (bi (own_ok (C.getD kk 0))) = (0 : Int32))).1) (by decide) (by decide) ?_
        show Steps p.tables e below (T267.setTop (mkF m 18 #[.val (.ref o0), .val (.int (Int32.ofNat n)), .val (.int (Int32.ofNat kk))] [])) _
        refine XS.iconst X267.here hx rfl (hb hby d14_18) ?_
        show Steps p.tables e below (T267.setTop (mkF m 19 #[.val (.ref o0), .val (.int (Int32.ofNat n)), .val (.int (Int32.ofNat kk))] [(.int (0 : Int32))])) _
        exact retN X267 hx (t := .boolean) Bd.returns (by simp) (hb hby d14_19) hr
      · show QrmOka Z o0 p2 n kk kc C h0 n0 _ T267.heap _
        rw [e267]
        exact ⟨(congrArg (fun x => some (Value.int x)) (bi_f (fun q => hc269 (q ((own_ltn (by omega) (by omega)).mp hc265)))).symm), N267, rfl⟩
  · obtain ⟨fs, hr, hrun, hended, hW, hsame⟩ := X0.leave (v := some (.int (1 : Int32))) (fun h => by rw [Bd.returns] at h; cases h)
    refine ⟨_, _, pre264 _ ?_, hrun, hended, _, _, rfl, ?_, ⟨_, rfl⟩, hW, hsame.mono (by decide) (by decide)⟩
    · show Steps p.tables e below (s₁.setTop (mkF m 2 #[.val (.ref o0), .val (.int (Int32.ofNat n)), .val (.int (Int32.ofNat kk))] [(.int (Int32.ofNat n)), (.int (Int32.ofNat kk))])) _
      refine XS.icmpYes X0.here hx rfl (pc0 := 2) (pc' := 14) rfl (hb hby d14_2) rfl (flt (hc265 : ¬ ((Int32.ofNat kk) < (Int32.ofNat n)))).2.1 (by decide) (by decide) ?_
      show Steps p.tables e below (s₁.setTop (mkF m 14 #[.val (.ref o0), .val (.int (Int32.ofNat n)), .val (.int (Int32.ofNat kk))] [])) _
      refine XS.iconst X0.here hx rfl (hb hby d14_14) ?_
      show Steps p.tables e below (s₁.setTop (mkF m 15 #[.val (.ref o0), .val (.int (Int32.ofNat n)), .val (.int (Int32.ofNat kk))] [(.int (1 : Int32))])) _
      refine XS.goto X0.here hx rfl (pc0 := 15) (pc' := 19) rfl (hb hby d14_15) (by decide) (by decide) ?_
      show Steps p.tables e below (s₁.setTop (mkF m 19 #[.val (.ref o0), .val (.int (Int32.ofNat n)), .val (.int (Int32.ofNat kk))] [(.int (1 : Int32))])) _
      exact retN X0 hx (t := .boolean) Bd.returns (by simp) (hb hby d14_19) hr
    · show QrmOka Z o0 p2 n kk kc C h0 n0 _ s₁.heap _
      rw [e0]
      exact ⟨(congrArg (fun x => some (Value.int x)) (bi_t (fun q => absurd ((own_ltn (by omega) (by omega)).mpr q) hc265)).symm), N0, rfl⟩
theorem d4_0 : decode prog_8_method_2_code 0 = .ok (.aload_n 0, 1) := by decide +kernel
theorem d4_1 : decode prog_8_method_2_code 1 = .ok (.ifnull 20, 3) := by decide +kernel
theorem d4_21 : decode prog_8_method_2_code 21 = .ok (.iconst 0, 1) := by decide +kernel
theorem d4_22 : decode prog_8_method_2_code 22 = .ok (.ireturn, 1) := by decide +kernel
theorem ef_rmIv0 (m : MethodId)  : entryFrame m #[.null] 2 = mkF m 0 #[.val .null, .unset] [] := by first | (simp [entryFrame, mkF, argsToLocals, Value.category]; done) | rfl
def QrmIv0 (Z : State)  (h0 : Heap) (n0 : Nat) (v : Option Value) (h : Heap) (L : List Loc) : Prop := v = some (.int (0 : Int32)) ∧ Fr n0 L ∧ h = h0
set_option maxRecDepth 65536 in
set_option maxHeartbeats 40000000 in
theorem rmIv0 (l : Launch) (Z : State) (a0 : Array Value) (hw : ∀ d ∈ tables_1, d.before a0 Z = true) (ws : List Jvm.Cond)  (h0 : Heap) (n0 : Nat) (Z0 : n0 ≤ h0.size) :
    MetFree l (⟨"com/example/delay_buckets/delaybuckets/Names", "isValid", "(Ljava/lang/String;)Z"⟩ : MethodName) (head1 (Jvm.Cond.code (⟨"com/example/delay_buckets/delaybuckets/Names", "isValid", "(Ljava/lang/String;)Z"⟩ : MethodName) prog_8_method_2_code 2 (some .boolean) :: ws) ({ frames := 0, cells := 0, slots := 0, locals := 0 } : Room)) (fun a U => a = #[.null] ∧ Z.Warmed39 U.vm ∧ U.heap = h0) (fun _ _ _ _ _ => True) (fun _ U o U' => ∃ v L, o = .returned v ∧ QrmIv0 Z h0 n0 v U'.heap L ∧ FrameEnd U o U' L ({ frames := 0, cells := 0, slots := 0, locals := 0 } : Room).cells ({ frames := 0, cells := 0, slots := 0, locals := 0 } : Room).slots) := by
  refine MetFree.of_bodySF (plainFor_of_name pn_13) hisR ?_
  intro p e s m args below meth c s₁ Bd hml0 hP hK
  obtain ⟨rfl, hZ, hh⟩ := hP
  have hx := Bd.exec
  have hby := Bd.bytes
  have hml : c.maxLocals = 2 := hml0
  have hown : s.vm.findClass "com/example/delay_buckets/delaybuckets/Names" = some m.cls := findClass_of_methodNamed Bd.named
  have hnm := (name_of_methodNamed Bd.named Bd.method).1
  have X0 : Stand p l e ({ frames := 0, cells := 0, slots := 0, locals := 0 } : Room) s m #[.null] below meth c s₁ [] 0 0 := Stand.of_body Bd
  have e0 : s₁.heap = h0 := by rw [← hh, Bd.state]; rfl
  have N0 := Fr.nil n0
  have pre0 : ∀ t, Steps p.tables e below (s₁.setTop (mkF m 0 #[.val .null, .unset] [])) t → Steps p.tables e below (s₁.setTop (entryFrame m #[.null] 2)) t := fun t k => castTop (ef_rmIv0 m) k
  have KC0 : Keep h0 h0 [] := Keep.refl _ _
  obtain ⟨fs, hr, hrun, hended, hW, hsame⟩ := X0.leave (v := some (.int (0 : Int32))) (fun h => by rw [Bd.returns] at h; cases h)
  refine ⟨_, _, pre0 _ ?_, hrun, hended, _, _, rfl, ?_, ⟨_, rfl⟩, hW, hsame.mono (by decide) (by decide)⟩
  · show Steps p.tables e below (s₁.setTop (mkF m 0 #[.val .null, .unset] [])) _
    refine XS.aloadN X0.here hx rfl (hb hby d4_0) rfl rfl ?_
    show Steps p.tables e below (s₁.setTop (mkF m 1 #[.val .null, .unset] [.null])) _
    refine XS.ifnullYes X0.here hx rfl (pc0 := 1) (pc' := 21) rfl (hb hby d4_1) rfl (by decide) (by decide) ?_
    show Steps p.tables e below (s₁.setTop (mkF m 21 #[.val .null, .unset] [])) _
    refine XS.iconst X0.here hx rfl (hb hby d4_21) ?_
    show Steps p.tables e below (s₁.setTop (mkF m 22 #[.val .null, .unset] [(.int (0 : Int32))])) _
    exact retN X0 hx (t := .boolean) Bd.returns (by simp) (hb hby d4_22) hr
  · show QrmIv0 Z h0 n0 _ s₁.heap _
    rw [e0]
    exact ⟨rfl, N0, rfl⟩
theorem d4_4 : decode prog_8_method_2_code 4 = .ok (.aload_n 0, 1) := by decide +kernel
theorem d4_5 : decode prog_8_method_2_code 5 = .ok (.invokevirtual 7, 3) := by decide +kernel
theorem d4_8 : decode prog_8_method_2_code 8 = .ok (.ifCond .ne 13, 3) := by decide +kernel
theorem d4_11 : decode prog_8_method_2_code 11 = .ok (.aload_n 0, 1) := by decide +kernel
theorem d4_12 : decode prog_8_method_2_code 12 = .ok (.invokevirtual 13, 3) := by decide +kernel
theorem pd_13 : parseMethodDescriptor "()I" = some ⟨[], some .int⟩ := by decide +kernel
theorem d4_15 : decode prog_8_method_2_code 15 = .ok (.sipush 128, 3) := by decide +kernel
theorem d4_18 : decode prog_8_method_2_code 18 = .ok (.if_icmp .le 5, 3) := by decide +kernel
theorem d4_23 : decode prog_8_method_2_code 23 = .ok (.iconst 0, 1) := by decide +kernel
theorem d4_24 : decode prog_8_method_2_code 24 = .ok (.istore_n 1, 1) := by decide +kernel
theorem d4_25 : decode prog_8_method_2_code 25 = .ok (.iload_n 1, 1) := by decide +kernel
theorem d4_26 : decode prog_8_method_2_code 26 = .ok (.aload_n 0, 1) := by decide +kernel
theorem d4_27 : decode prog_8_method_2_code 27 = .ok (.invokevirtual 13, 3) := by decide +kernel
theorem d4_30 : decode prog_8_method_2_code 30 = .ok (.if_icmp .ge 22, 3) := by decide +kernel
theorem d4_33 : decode prog_8_method_2_code 33 = .ok (.aload_n 0, 1) := by decide +kernel
theorem d4_34 : decode prog_8_method_2_code 34 = .ok (.iload_n 1, 1) := by decide +kernel
theorem d4_35 : decode prog_8_method_2_code 35 = .ok (.invokevirtual 19, 3) := by decide +kernel
theorem pd_14 : parseMethodDescriptor "(I)C" = some ⟨[.int], some .char⟩ := by decide +kernel
theorem d4_38 : decode prog_8_method_2_code 38 = .ok (.invokestatic 23, 3) := by decide +kernel
theorem d4_41 : decode prog_8_method_2_code 41 = .ok (.ifCond .ne 5, 3) := by decide +kernel
theorem d4_46 : decode prog_8_method_2_code 46 = .ok (.iinc 1 1, 3) := by decide +kernel
theorem d4_49 : decode prog_8_method_2_code 49 = .ok (.goto (-24), 3) := by decide +kernel
theorem d4_44 : decode prog_8_method_2_code 44 = .ok (.iconst 0, 1) := by decide +kernel
theorem d4_45 : decode prog_8_method_2_code 45 = .ok (.ireturn, 1) := by decide +kernel
theorem d4_52 : decode prog_8_method_2_code 52 = .ok (.iconst 1, 1) := by decide +kernel
theorem d4_53 : decode prog_8_method_2_code 53 = .ok (.ireturn, 1) := by decide +kernel
theorem ef_rmIvs (m : MethodId) (o0 : Addr) : entryFrame m #[(.ref o0)] 2 = mkF m 0 #[.val (.ref o0), .unset] [] := by first | (simp [entryFrame, mkF, argsToLocals, Value.category]; done) | rfl
def QrmIvs (Z : State) (o0 : Addr) (G1 : Int32) (cs : List Int32) (bv : Addr) (kb : ClassId) (z : Int32) (M : Nat) (bs : List Value) (fm : Value) (h0 : Heap) (n0 : Nat) (v : Option Value) (h : Heap) (L : List Loc) : Prop := v = some (.int (bi (own_val cs))) ∧ Fr n0 L ∧ h = h0
set_option maxRecDepth 65536 in
set_option maxHeartbeats 40000000 in
theorem rmIvs (l : Launch) (Z : State) (a0 : Array Value) (hw : ∀ d ∈ tables_1, d.before a0 Z = true) (ws : List Jvm.Cond) (o0 : Addr) (G1 : Int32) (cs : List Int32) (bv : Addr) (kb : ClassId) (z : Int32) (M : Nat) (bs : List Value) (fm : Value) (h0 : Heap) (n0 : Nat) (Z0 : n0 ≤ h0.size) (H0 : Sta Z h0 "java/lang/StringUTF16" "$assertionsDisabled" "Z" (.int (1 : Int32))) (H1 : Sta Z h0 "java/lang/StringUTF16" "HI_BYTE_SHIFT" "I" (.int (0 : Int32))) (H2 : Sta Z h0 "java/lang/StringUTF16" "LO_BYTE_SHIFT" "I" (.int (8 : Int32))) (H3 : Sta Z h0 "java/lang/String" "COMPACT_STRINGS" "Z" (.int G1)) (hG1 : ¬ (G1 = (0 : Int32))) (H5 : Sta Z h0 "jdk/internal/util/Preconditions" "SIOOBE_FORMATTER" "Ljava/util/function/BiFunction;" fm) (rf : fm.isRef = true) (H7 : Exa Z h0 o0 "java/lang/String") (H8 : Fld Z h0 o0 "java/lang/String" "value" "[B" (.ref bv)) (H9 : Fld Z h0 o0 "java/lang/String" "coder" "B" (.int z)) (H10 : Arv Z h0 bv kb .byte (Int32.ofNat M) bs (.int (0 : Int32))) (cd : own_cod cs z M bs) (hn : cs.length ≤ 1000) (hbd : own_bd cs) :
    MetFree l (⟨"com/example/delay_buckets/delaybuckets/Names", "isValid", "(Ljava/lang/String;)Z"⟩ : MethodName) (head1 (Jvm.Cond.code (⟨"com/example/delay_buckets/delaybuckets/Names", "isValid", "(Ljava/lang/String;)Z"⟩ : MethodName) prog_8_method_2_code 2 (some .boolean) :: ws) ({ frames := 5, cells := 0, slots := 0, locals := 66 } : Room)) (fun a U => a = #[(.ref o0)] ∧ Z.Warmed39 U.vm ∧ U.heap = h0) (fun _ _ _ _ _ => True) (fun _ U o U' => ∃ v L, o = .returned v ∧ QrmIvs Z o0 G1 cs bv kb z M bs fm h0 n0 v U'.heap L ∧ FrameEnd U o U' L ({ frames := 5, cells := 0, slots := 0, locals := 66 } : Room).cells ({ frames := 5, cells := 0, slots := 0, locals := 66 } : Room).slots) := by
  refine MetFree.of_bodySF (plainFor_of_name pn_13) hisR ?_
  intro p e s m args below meth c s₁ Bd hml0 hP hK
  obtain ⟨rfl, hZ, hh⟩ := hP
  have hx := Bd.exec
  have hby := Bd.bytes
  have hml : c.maxLocals = 2 := hml0
  have hown : s.vm.findClass "com/example/delay_buckets/delaybuckets/Names" = some m.cls := findClass_of_methodNamed Bd.named
  have hnm := (name_of_methodNamed Bd.named Bd.method).1
  have X0 : Stand p l e ({ frames := 5, cells := 0, slots := 0, locals := 66 } : Room) s m #[(.ref o0)] below meth c s₁ [] 0 0 := Stand.of_body Bd
  have e0 : s₁.heap = h0 := by rw [← hh, Bd.state]; rfl
  have N0 := Fr.nil n0
  have pre0 : ∀ t, Steps p.tables e below (s₁.setTop (mkF m 0 #[.val (.ref o0), .unset] [])) t → Steps p.tables e below (s₁.setTop (entryFrame m #[(.ref o0)] 2)) t := fun t k => castTop (ef_rmIvs m o0) k
  have z270 : @LT.lt Nat _ o0 (Array.size h0) := H7.lt
  have z271 : @LT.lt Nat _ o0 (Array.size h0) := H8.lt
  have z272 : @LT.lt Nat _ o0 (Array.size h0) := H9.lt
  have z273 : @LT.lt Nat _ bv (Array.size h0) := H10.lt
  have KC0 : Keep h0 h0 [] := Keep.refl _ _
  obtain ⟨cq274, kq274, qa274, qb274, qc274⟩ := isOf hZ e0 H7
  obtain ⟨_, _, ⟨T274, L274, k274, n274⟩, -, X274, ⟨Lc274, hQ274, l274, y274, z274⟩, st274⟩ := X0.virtualBack hx (y := (⟨"java/lang/String", "isEmpty", "()Z"⟩ : MethodName)) (z := (⟨"java/lang/String", "isEmpty", "()Z"⟩ : MethodName)) hown (mvT hZ (hw _ (List.mem_of_getElem? (i := 27) rfl))) (mvT hZ (hw _ (List.mem_of_getElem? (i := 28) rfl))) (notFace_of_selects (args := #[]) (mvT hZ (hw _ (List.mem_of_getElem? (i := 30) rfl)))) (mvT hZ (hw _ (List.mem_of_getElem? (i := 30) rfl))) (mvT hZ (hw _ (List.mem_of_getElem? (i := 29) rfl))) (by decide) (backOf (W := 0) (rmEmp l Z a0 hw [] o0 cs bv kb z M bs h0 n0 (by omega) H7 H8 H9 H10 (cd : own_cod cs z M bs) (hn : cs.length ≤ 1000) (hbd : own_bd cs)) hZ (hw _ (List.mem_of_getElem? (i := 31) rfl)) (hw _ (List.mem_of_getElem? (i := 4) rfl)) (by decide) (by decide)) qa274 qc274 (g := (mkF m 5 #[.val (.ref o0), .unset] [(.ref o0)])) rfl (by rw [hml]; rfl) (Steps.refl _) (argsL := []) (rest := []) (lenOf pd_11 rfl) rfl (by show 2 * 0 + _ ≤ _; exact Nat.le_of_eq rfl) (hb hby d4_5) (fun _ _ => ⟨rfl, e0, (by decide : 0 + 0 ≤ _), (by decide : 0 + 0 ≤ _)⟩)
  dsimp only [Pt.U, Pt.locs, Pt.cells, Pt.slots] at X274 l274 y274 z274 st274 hQ274
  subst l274 y274 z274
  obtain ⟨rfl, N274q, e274⟩ := hQ274
  have N274 := Fr.app N0 N274q
  have pre275 : ∀ t, Steps p.tables e below (T274.setTop (mkF m 8 #[.val (.ref o0), .unset] [(.int (bi (cs = [])))])) t → Steps p.tables e below (s₁.setTop (entryFrame m #[(.ref o0)] 2)) t := fun t k => by
    refine pre0 _ ?_
    show Steps p.tables e below (s₁.setTop (mkF m 0 #[.val (.ref o0), .unset] [])) _
    refine XS.aloadN X0.here hx rfl (hb hby d4_0) rfl rfl ?_
    show Steps p.tables e below (s₁.setTop (mkF m 1 #[.val (.ref o0), .unset] [(.ref o0)])) _
    refine XS.ifnullNo X0.here hx rfl (hb hby d4_1) rfl ?_
    show Steps p.tables e below (s₁.setTop (mkF m 4 #[.val (.ref o0), .unset] [])) _
    refine XS.aloadN X0.here hx rfl (hb hby d4_4) rfl rfl ?_
    show Steps p.tables e below (s₁.setTop (mkF m 5 #[.val (.ref o0), .unset] [(.ref o0)])) _
    refine st274.trans ?_
    exact k
  by_cases hc276 : cs = []
  · obtain ⟨fs, hr, hrun, hended, hW, hsame⟩ := X274.leave (v := some (.int (0 : Int32))) (fun h => by rw [Bd.returns] at h; cases h)
    refine ⟨_, _, pre275 _ ?_, hrun, hended, _, _, rfl, ?_, ⟨_, rfl⟩, hW, hsame.mono (by decide) (by decide)⟩
    · show Steps p.tables e below (T274.setTop (mkF m 8 #[.val (.ref o0), .unset] [(.int (bi (cs = [])))])) _
      refine XS.ifYes X274.here hx rfl (pc0 := 8) (pc' := 21) rfl (hb hby d4_8) rfl ((if0 _ _).trans (feq ((bi_n hc276) : ¬ ((bi (cs = [])) = (0 : Int32)))).2) (by decide) (by decide) ?_
      show Steps p.tables e below (T274.setTop (mkF m 21 #[.val (.ref o0), .unset] [])) _
      refine XS.iconst X274.here hx rfl (hb hby d4_21) ?_
      show Steps p.tables e below (T274.setTop (mkF m 22 #[.val (.ref o0), .unset] [(.int (0 : Int32))])) _
      exact retN X274 hx (t := .boolean) Bd.returns (by simp) (hb hby d4_22) hr
    · show QrmIvs Z o0 G1 cs bv kb z M bs fm h0 n0 _ T274.heap _
      rw [e274]
      exact ⟨(congrArg (fun x => some (Value.int x)) (bi_f (fun q => q.1 hc276)).symm), N274, rfl⟩
  · obtain ⟨cq277, kq277, qa277, qb277, qc277⟩ := isOf hZ e274 H7
    obtain ⟨_, _, ⟨T277, L277, k277, n277⟩, -, X277, ⟨Lc277, hQ277, l277, y277, z277⟩, st277⟩ := X274.virtualBack hx (y := (⟨"java/lang/String", "length", "()I"⟩ : MethodName)) (z := (⟨"java/lang/String", "length", "()I"⟩ : MethodName)) hown (mvT hZ (hw _ (List.mem_of_getElem? (i := 44) rfl))) (mvT hZ (hw _ (List.mem_of_getElem? (i := 34) rfl))) (notFace_of_selects (args := #[]) (mvT hZ (hw _ (List.mem_of_getElem? (i := 36) rfl)))) (mvT hZ (hw _ (List.mem_of_getElem? (i := 36) rfl))) (mvT hZ (hw _ (List.mem_of_getElem? (i := 35) rfl))) (by decide) (backOf (W := 0) (rmLen l Z a0 hw [] o0 G1 cs bv kb z M bs h0 n0 (by omega) H3 (hG1 : ¬ (G1 = (0 : Int32))) H7 H8 H9 H10 (cd : own_cod cs z M bs) (hn : cs.length ≤ 1000) (hbd : own_bd cs)) hZ (hw _ (List.mem_of_getElem? (i := 37) rfl)) (hw _ (List.mem_of_getElem? (i := 4) rfl)) (by decide) (by decide)) qa277 qc277 (g := (mkF m 12 #[.val (.ref o0), .unset] [(.ref o0)])) rfl (by rw [hml]; rfl) (Steps.refl _) (argsL := []) (rest := []) (lenOf pd_13 rfl) rfl (by show 2 * 0 + _ ≤ _; exact Nat.le_of_eq rfl) (hb hby d4_12) (fun _ _ => ⟨rfl, e274, (by decide : 0 + 0 ≤ _), (by decide : 0 + 0 ≤ _)⟩)
    dsimp only [Pt.U, Pt.locs, Pt.cells, Pt.slots] at X277 l277 y277 z277 st277 hQ277
    subst l277 y277 z277
    obtain ⟨rfl, N277q, e277⟩ := hQ277
    have N277 := Fr.app N274 N277q
    have pre278 : ∀ t, Steps p.tables e below (T277.setTop (mkF m 18 #[.val (.ref o0), .unset] [(.int (128 : Int32)), (.int (Int32.ofNat cs.length))])) t → Steps p.tables e below (s₁.setTop (entryFrame m #[(.ref o0)] 2)) t := fun t k => by
      refine pre275 _ ?_
      show Steps p.tables e below (T274.setTop (mkF m 8 #[.val (.ref o0), .unset] [(.int (bi (cs = [])))])) _
      refine XS.ifNo X274.here hx rfl (hb hby d4_8) rfl ((if0 _ _).trans (teq ((bi_f hc276) : (bi (cs = [])) = (0 : Int32))).2) ?_
      show Steps p.tables e below (T274.setTop (mkF m 11 #[.val (.ref o0), .unset] [])) _
      refine XS.aloadN X274.here hx rfl (hb hby d4_11) rfl rfl ?_
      show Steps p.tables e below (T274.setTop (mkF m 12 #[.val (.ref o0), .unset] [(.ref o0)])) _
      refine st277.trans ?_
      show Steps p.tables e below (T277.setTop (mkF m 15 #[.val (.ref o0), .unset] [(.int (Int32.ofNat cs.length))])) _
      refine XS.sipush X277.here hx rfl (hb hby d4_15) ?_
      exact k
    by_cases hc279 : (128 : Int32) < (Int32.ofNat cs.length)
    · obtain ⟨fs, hr, hrun, hended, hW, hsame⟩ := X277.leave (v := some (.int (0 : Int32))) (fun h => by rw [Bd.returns] at h; cases h)
      refine ⟨_, _, pre278 _ ?_, hrun, hended, _, _, rfl, ?_, ⟨_, rfl⟩, hW, hsame.mono (by decide) (by decide)⟩
      · show Steps p.tables e below (T277.setTop (mkF m 18 #[.val (.ref o0), .unset] [(.int (128 : Int32)), (.int (Int32.ofNat cs.length))])) _
        refine XS.icmpNo X277.here hx rfl (hb hby d4_18) rfl (tlt (hc279 : (128 : Int32) < (Int32.ofNat cs.length))).2.2.2 ?_
        show Steps p.tables e below (T277.setTop (mkF m 21 #[.val (.ref o0), .unset] [])) _
        refine XS.iconst X277.here hx rfl (hb hby d4_21) ?_
        show Steps p.tables e below (T277.setTop (mkF m 22 #[.val (.ref o0), .unset] [(.int (0 : Int32))])) _
        exact retN X277 hx (t := .boolean) Bd.returns (by simp) (hb hby d4_22) hr
      · show QrmIvs Z o0 G1 cs bv kb z M bs fm h0 n0 _ T277.heap _
        rw [e277]
        exact ⟨(congrArg (fun x => some (Value.int x)) (bi_f (fun q => by have q2 := (own_ltn (a := 128) (by omega) (by omega)).mp hc279; have q3 := q.2.1; omega)).symm), N277, rfl⟩
    · obtain ⟨j, ja, jb, jc⟩ := own_fst (fun i => own_ok (cs.getD i 0)) cs.length
      have pre280 : ∀ t, Steps p.tables e below (T277.setTop (mkF m 25 #[.val (.ref o0), .val (.int (0 : Int32))] [])) t → Steps p.tables e below (s₁.setTop (entryFrame m #[(.ref o0)] 2)) t := fun t k => by
        refine pre278 _ ?_
        show Steps p.tables e below (T277.setTop (mkF m 18 #[.val (.ref o0), .unset] [(.int (128 : Int32)), (.int (Int32.ofNat cs.length))])) _
        refine XS.icmpYes X277.here hx rfl (pc0 := 18) (pc' := 23) rfl (hb hby d4_18) rfl (flt (hc279 : ¬ ((128 : Int32) < (Int32.ofNat cs.length)))).2.2.2 (by decide) (by decide) ?_
        show Steps p.tables e below (T277.setTop (mkF m 23 #[.val (.ref o0), .unset] [])) _
        refine XS.iconst X277.here hx rfl (hb hby d4_23) ?_
        show Steps p.tables e below (T277.setTop (mkF m 24 #[.val (.ref o0), .unset] [(.int (0 : Int32))])) _
        refine XS.istoreN X277.here hx rfl (hb hby d4_24) rfl (l' := #[.val (.ref o0), .val (.int (0 : Int32))]) rfl ?_
        exact k
      have pre281 : ∀ t, Steps p.tables e below (T277.setTop (mkF m 25 #[.val (.ref o0), .val (.int (Int32.ofNat 0))] [])) t → Steps p.tables e below (s₁.setTop (entryFrame m #[(.ref o0)] 2)) t := fun t k => pre280 t (by rw [(rfl : (0 : Int32) = Int32.ofNat 0)]; exact k)
      have lp282 : ∀ (k i : Nat) (Tk : State) (Lk : List Loc), i + k = j → Stand p l e ({ frames := 5, cells := 0, slots := 0, locals := 66 } : Room) s m #[(.ref o0)] below meth c Tk Lk 0 0 → Tk.heap = h0 → Fr n0 Lk →
          ∃ (T' : State) (L' : List Loc), Stand p l e ({ frames := 5, cells := 0, slots := 0, locals := 66 } : Room) s m #[(.ref o0)] below meth c T' L' 0 0 ∧ T'.heap = h0 ∧ Fr n0 L' ∧ (∀ t, Steps p.tables e below (T'.setTop (mkF m 25 #[.val (.ref o0), .val (.int (Int32.ofNat j))] [])) t → Steps p.tables e below (Tk.setTop (mkF m 25 #[.val (.ref o0), .val (.int (Int32.ofNat i))] [])) t) := by
        intro k
        induction k with
        | zero =>
          intro i Tk Lk hik Xk ek Nk
          obtain rfl : j = i := by omega
          have preL : ∀ t, Steps p.tables e below (Tk.setTop (mkF m 25 #[.val (.ref o0), .val (.int (Int32.ofNat j))] [])) t → Steps p.tables e below (Tk.setTop (mkF m 25 #[.val (.ref o0), .val (.int (Int32.ofNat j))] [])) t := fun t k => k
          exact ⟨_, _, Xk, ek, Nk, fun t kt => preL t kt⟩
        | succ k ih =>
          intro i Tk Lk hik Xk ek Nk
          have preL : ∀ t, Steps p.tables e below (Tk.setTop (mkF m 25 #[.val (.ref o0), .val (.int (Int32.ofNat i))] [])) t → Steps p.tables e below (Tk.setTop (mkF m 25 #[.val (.ref o0), .val (.int (Int32.ofNat i))] [])) t := fun t k => k
          obtain ⟨cq284, kq284, qa284, qb284, qc284⟩ := isOf hZ ek H7
          obtain ⟨_, _, ⟨T284, L284, k284, n284⟩, -, X284, ⟨Lc284, hQ284, l284, y284, z284⟩, st284⟩ := Xk.virtualBack hx (y := (⟨"java/lang/String", "length", "()I"⟩ : MethodName)) (z := (⟨"java/lang/String", "length", "()I"⟩ : MethodName)) hown (mvT hZ (hw _ (List.mem_of_getElem? (i := 44) rfl))) (mvT hZ (hw _ (List.mem_of_getElem? (i := 34) rfl))) (notFace_of_selects (args := #[]) (mvT hZ (hw _ (List.mem_of_getElem? (i := 36) rfl)))) (mvT hZ (hw _ (List.mem_of_getElem? (i := 36) rfl))) (mvT hZ (hw _ (List.mem_of_getElem? (i := 35) rfl))) (by decide) (backOf (W := 1) (rmLen l Z a0 hw [] o0 G1 cs bv kb z M bs h0 n0 (by omega) H3 (hG1 : ¬ (G1 = (0 : Int32))) H7 H8 H9 H10 (cd : own_cod cs z M bs) (hn : cs.length ≤ 1000) (hbd : own_bd cs)) hZ (hw _ (List.mem_of_getElem? (i := 37) rfl)) (hw _ (List.mem_of_getElem? (i := 4) rfl)) (by decide) (by decide)) qa284 qc284 (g := (mkF m 27 #[.val (.ref o0), .val (.int (Int32.ofNat i))] [(.ref o0), (.int (Int32.ofNat i))])) rfl (by rw [hml]; rfl) (Steps.refl _) (argsL := []) (rest := [(.int (Int32.ofNat i))]) (lenOf pd_13 rfl) rfl (by show 2 * 0 + _ ≤ _; exact Nat.le_of_eq rfl) (hb hby d4_27) (fun _ _ => ⟨rfl, ek, (by decide : 0 + 0 ≤ _), (by decide : 0 + 0 ≤ _)⟩)
          dsimp only [Pt.U, Pt.locs, Pt.cells, Pt.slots] at X284 l284 y284 z284 st284 hQ284
          subst l284 y284 z284
          obtain ⟨rfl, N284q, e284⟩ := hQ284
          have N284 := Fr.app Nk N284q
          obtain ⟨cq285, kq285, qa285, qb285, qc285⟩ := isOf hZ e284 H7
          obtain ⟨_, _, ⟨T285, L285, k285, n285⟩, -, X285, ⟨Lc285, hQ285, l285, y285, z285⟩, st285⟩ := X284.virtualBack hx (y := (⟨"java/lang/String", "charAt", "(I)C"⟩ : MethodName)) (z := (⟨"java/lang/String", "charAt", "(I)C"⟩ : MethodName)) hown (mvT hZ (hw _ (List.mem_of_getElem? (i := 46) rfl))) (mvT hZ (hw _ (List.mem_of_getElem? (i := 47) rfl))) (notFace_of_selects (args := #[]) (mvT hZ (hw _ (List.mem_of_getElem? (i := 49) rfl)))) (mvT hZ (hw _ (List.mem_of_getElem? (i := 49) rfl))) (mvT hZ (hw _ (List.mem_of_getElem? (i := 48) rfl))) (by decide) (backOf (W := 0) (rmCat l Z a0 hw [] o0 i G1 cs bv kb z M bs fm h0 n0 (by omega) H0 H1 H2 H3 (hG1 : ¬ (G1 = (0 : Int32))) H5 (rf : fm.isRef = true) H7 H8 H9 H10 (cd : own_cod cs z M bs) (hn : cs.length ≤ 1000) (hbd : own_bd cs) ((by omega) : i < cs.length)) hZ (hw _ (List.mem_of_getElem? (i := 50) rfl)) (hw _ (List.mem_of_getElem? (i := 4) rfl)) (by decide) (by decide)) qa285 qc285 (g := (mkF m 35 #[.val (.ref o0), .val (.int (Int32.ofNat i))] [(.int (Int32.ofNat i)), (.ref o0)])) rfl (by rw [hml]; rfl) (Steps.refl _) (argsL := [(.int (Int32.ofNat i))]) (rest := []) (lenOf pd_14 rfl) rfl (by show 2 * 0 + _ ≤ _; exact Nat.le_of_eq rfl) (hb hby d4_35) (fun _ _ => ⟨rfl, e284, (by decide : 0 + 0 ≤ _), (by decide : 0 + 0 ≤ _)⟩)
          dsimp only [Pt.U, Pt.locs, Pt.cells, Pt.slots] at X285 l285 y285 z285 st285 hQ285
          subst l285 y285 z285
          obtain ⟨rfl, N285q, e285⟩ := hQ285
          have N285 := Fr.app N284 N285q
          obtain ⟨_, _, ⟨T286, L286, k286, n286⟩, -, X286, ⟨Lc286, hQ286, l286, y286, z286⟩, st286⟩ := Jvm.LawKit.callS X285 hx (y := (⟨"com/example/delay_buckets/delaybuckets/Names", "isAllowed", "(C)Z"⟩ : MethodName)) hown (mvT hZ (hw _ (List.mem_of_getElem? (i := 68) rfl))) (mvT hZ (hw _ (List.mem_of_getElem? (i := 69) rfl))) (mvT hZ (hw _ (List.mem_of_getElem? (i := 25) rfl))) (mvT hZ (hw _ (List.mem_of_getElem? (i := 70) rfl))) (by decide) (backOf (W := 0) (rmIsa l Z a0 hw [] (cs.getD i 0) h0 n0 (by omega)) hZ (hw _ (List.mem_of_getElem? (i := 70) rfl)) (hw _ (List.mem_of_getElem? (i := 25) rfl)) (by decide) (by decide)) (g := (mkF m 38 #[.val (.ref o0), .val (.int (Int32.ofNat i))] [(.int (cs.getD i 0))])) rfl (by rw [hml]; rfl) (argsL := [(.int (cs.getD i 0))]) (rest := []) (lenOf pd_12 rfl) rfl (by show 2 * 0 + _ ≤ _; exact Nat.le_of_eq rfl) (hb hby d4_38) (fun _ _ => ⟨rfl, e285, (by decide : 0 + 0 ≤ _), (by decide : 0 + 0 ≤ _)⟩)
          dsimp only [Pt.U, Pt.locs, Pt.cells, Pt.slots] at X286 l286 y286 z286 st286 hQ286
          subst l286 y286 z286
          obtain ⟨rfl, N286q, e286⟩ := hQ286
          have N286 := Fr.app N285 N286q
          have pre288 : ∀ t, Steps p.tables e below (T286.setTop (mkF m 25 #[.val (.ref o0), .val (.int ((Int32.ofNat i) + (1 : Int32)))] [])) t → Steps p.tables e below (Tk.setTop (mkF m 25 #[.val (.ref o0), .val (.int (Int32.ofNat i))] [])) t := fun t k => by
            refine preL _ ?_
            show Steps p.tables e below (Tk.setTop (mkF m 25 #[.val (.ref o0), .val (.int (Int32.ofNat i))] [])) _
            refine XS.iloadN Xk.here hx rfl (hb hby d4_25) rfl ?_
            show Steps p.tables e below (Tk.setTop (mkF m 26 #[.val (.ref o0), .val (.int (Int32.ofNat i))] [(.int (Int32.ofNat i))])) _
            refine XS.aloadN Xk.here hx rfl (hb hby d4_26) rfl rfl ?_
            show Steps p.tables e below (Tk.setTop (mkF m 27 #[.val (.ref o0), .val (.int (Int32.ofNat i))] [(.ref o0), (.int (Int32.ofNat i))])) _
            refine st284.trans ?_
            show Steps p.tables e below (T284.setTop (mkF m 30 #[.val (.ref o0), .val (.int (Int32.ofNat i))] [(.int (Int32.ofNat cs.length)), (.int (Int32.ofNat i))])) _
            refine XS.icmpNo X284.here hx rfl (hb hby d4_30) rfl (tlt ((own_in (by omega) (by omega)).2 : (Int32.ofNat i) < (Int32.ofNat cs.length))).2.1 ?_
            show Steps p.tables e below (T284.setTop (mkF m 33 #[.val (.ref o0), .val (.int (Int32.ofNat i))] [])) _
            refine XS.aloadN X284.here hx rfl (hb hby d4_33) rfl rfl ?_
            show Steps p.tables e below (T284.setTop (mkF m 34 #[.val (.ref o0), .val (.int (Int32.ofNat i))] [(.ref o0)])) _
            refine XS.iloadN X284.here hx rfl (hb hby d4_34) rfl ?_
            show Steps p.tables e below (T284.setTop (mkF m 35 #[.val (.ref o0), .val (.int (Int32.ofNat i))] [(.int (Int32.ofNat i)), (.ref o0)])) _
            refine st285.trans ?_
            show Steps p.tables e below (T285.setTop (mkF m 38 #[.val (.ref o0), .val (.int (Int32.ofNat i))] [(.int (cs.getD i 0))])) _
            refine st286 _ ?_
            show Steps p.tables e below (T286.setTop (mkF m 41 #[.val (.ref o0), .val (.int (Int32.ofNat i))] [(.int (bi (own_ok (cs.getD i 0))))])) _
            refine XS.ifYes X286.here hx rfl (pc0 := 41) (pc' := 46) rfl (hb hby d4_41) rfl ((if0 _ _).trans (feq ((bi_n (jb i (by omega))) : ¬ ((bi (own_ok (cs.getD i 0))) = (0 : Int32)))).2) (by decide) (by decide) ?_
            show Steps p.tables e below (T286.setTop (mkF m 46 #[.val (.ref o0), .val (.int (Int32.ofNat i))] [])) _
            refine XS.iinc X286.here hx rfl (hb hby d4_46) rfl (l' := #[.val (.ref o0), .val (.int ((Int32.ofNat i) + (1 : Int32)))]) rfl ?_
            show Steps p.tables e below (T286.setTop (mkF m 49 #[.val (.ref o0), .val (.int ((Int32.ofNat i) + (1 : Int32)))] [])) _
            refine XS.goto X286.here hx rfl (pc0 := 49) (pc' := 25) rfl (hb hby d4_49) (by decide) (by decide) ?_
            exact k
          have pre289 : ∀ t, Steps p.tables e below (T286.setTop (mkF m 25 #[.val (.ref o0), .val (.int (Int32.ofNat (i + 1)))] [])) t → Steps p.tables e below (Tk.setTop (mkF m 25 #[.val (.ref o0), .val (.int (Int32.ofNat i))] [])) t := fun t k => pre288 t (by rw [own_inc (by omega)]; exact k)
          obtain ⟨T287, L287, X287, e287, N287, st287⟩ := ih (i + 1) _ _ (by omega) X286 e286 N286
          exact ⟨T287, L287, X287, e287, N287, fun t kt => pre289 t (st287 t kt)⟩
      obtain ⟨T290, L290, X290, e290, N290, st290⟩ := lp282 (j) (0) _ _ (by omega) X277 e277 N277
      obtain ⟨cq291, kq291, qa291, qb291, qc291⟩ := isOf hZ e290 H7
      obtain ⟨_, _, ⟨T291, L291, k291, n291⟩, -, X291, ⟨Lc291, hQ291, l291, y291, z291⟩, st291⟩ := X290.virtualBack hx (y := (⟨"java/lang/String", "length", "()I"⟩ : MethodName)) (z := (⟨"java/lang/String", "length", "()I"⟩ : MethodName)) hown (mvT hZ (hw _ (List.mem_of_getElem? (i := 44) rfl))) (mvT hZ (hw _ (List.mem_of_getElem? (i := 34) rfl))) (notFace_of_selects (args := #[]) (mvT hZ (hw _ (List.mem_of_getElem? (i := 36) rfl)))) (mvT hZ (hw _ (List.mem_of_getElem? (i := 36) rfl))) (mvT hZ (hw _ (List.mem_of_getElem? (i := 35) rfl))) (by decide) (backOf (W := 1) (rmLen l Z a0 hw [] o0 G1 cs bv kb z M bs h0 n0 (by omega) H3 (hG1 : ¬ (G1 = (0 : Int32))) H7 H8 H9 H10 (cd : own_cod cs z M bs) (hn : cs.length ≤ 1000) (hbd : own_bd cs)) hZ (hw _ (List.mem_of_getElem? (i := 37) rfl)) (hw _ (List.mem_of_getElem? (i := 4) rfl)) (by decide) (by decide)) qa291 qc291 (g := (mkF m 27 #[.val (.ref o0), .val (.int (Int32.ofNat j))] [(.ref o0), (.int (Int32.ofNat j))])) rfl (by rw [hml]; rfl) (Steps.refl _) (argsL := []) (rest := [(.int (Int32.ofNat j))]) (lenOf pd_13 rfl) rfl (by show 2 * 0 + _ ≤ _; exact Nat.le_of_eq rfl) (hb hby d4_27) (fun _ _ => ⟨rfl, e290, (by decide : 0 + 0 ≤ _), (by decide : 0 + 0 ≤ _)⟩)
      dsimp only [Pt.U, Pt.locs, Pt.cells, Pt.slots] at X291 l291 y291 z291 st291 hQ291
      subst l291 y291 z291
      obtain ⟨rfl, N291q, e291⟩ := hQ291
      have N291 := Fr.app N290 N291q
      have pre292 : ∀ t, Steps p.tables e below (T291.setTop (mkF m 30 #[.val (.ref o0), .val (.int (Int32.ofNat j))] [(.int (Int32.ofNat cs.length)), (.int (Int32.ofNat j))])) t → Steps p.tables e below (s₁.setTop (entryFrame m #[(.ref o0)] 2)) t := fun t k => by
        refine pre281 _ ?_
        refine st290 _ ?_
        show Steps p.tables e below (T290.setTop (mkF m 25 #[.val (.ref o0), .val (.int (Int32.ofNat j))] [])) _
        refine XS.iloadN X290.here hx rfl (hb hby d4_25) rfl ?_
        show Steps p.tables e below (T290.setTop (mkF m 26 #[.val (.ref o0), .val (.int (Int32.ofNat j))] [(.int (Int32.ofNat j))])) _
        refine XS.aloadN X290.here hx rfl (hb hby d4_26) rfl rfl ?_
        show Steps p.tables e below (T290.setTop (mkF m 27 #[.val (.ref o0), .val (.int (Int32.ofNat j))] [(.ref o0), (.int (Int32.ofNat j))])) _
        refine st291.trans ?_
        exact k
      by_cases hc293 : (Int32.ofNat j) < (Int32.ofNat cs.length)
      · obtain ⟨cq294, kq294, qa294, qb294, qc294⟩ := isOf hZ e291 H7
        obtain ⟨_, _, ⟨T294, L294, k294, n294⟩, -, X294, ⟨Lc294, hQ294, l294, y294, z294⟩, st294⟩ := X291.virtualBack hx (y := (⟨"java/lang/String", "charAt", "(I)C"⟩ : MethodName)) (z := (⟨"java/lang/String", "charAt", "(I)C"⟩ : MethodName)) hown (mvT hZ (hw _ (List.mem_of_getElem? (i := 46) rfl))) (mvT hZ (hw _ (List.mem_of_getElem? (i := 47) rfl))) (notFace_of_selects (args := #[]) (mvT hZ (hw _ (List.mem_of_getElem? (i := 49) rfl)))) (mvT hZ (hw _ (List.mem_of_getElem? (i := 49) rfl))) (mvT hZ (hw _ (List.mem_of_getElem? (i := 48) rfl))) (by decide) (backOf (W := 0) (rmCat l Z a0 hw [] o0 j G1 cs bv kb z M bs fm h0 n0 (by omega) H0 H1 H2 H3 (hG1 : ¬ (G1 = (0 : Int32))) H5 (rf : fm.isRef = true) H7 H8 H9 H10 (cd : own_cod cs z M bs) (hn : cs.length ≤ 1000) (hbd : own_bd cs) (((own_ltn (by omega) (by omega)).mp hc293) : j < cs.length)) hZ (hw _ (List.mem_of_getElem? (i := 50) rfl)) (hw _ (List.mem_of_getElem? (i := 4) rfl)) (by decide) (by decide)) qa294 qc294 (g := (mkF m 35 #[.val (.ref o0), .val (.int (Int32.ofNat j))] [(.int (Int32.ofNat j)), (.ref o0)])) rfl (by rw [hml]; rfl) (Steps.refl _) (argsL := [(.int (Int32.ofNat j))]) (rest := []) (lenOf pd_14 rfl) rfl (by show 2 * 0 + _ ≤ _; exact Nat.le_of_eq rfl) (hb hby d4_35) (fun _ _ => ⟨rfl, e291, (by decide : 0 + 0 ≤ _), (by decide : 0 + 0 ≤ _)⟩)
        dsimp only [Pt.U, Pt.locs, Pt.cells, Pt.slots] at X294 l294 y294 z294 st294 hQ294
        subst l294 y294 z294
        obtain ⟨rfl, N294q, e294⟩ := hQ294
        have N294 := Fr.app N291 N294q
        obtain ⟨_, _, ⟨T295, L295, k295, n295⟩, -, X295, ⟨Lc295, hQ295, l295, y295, z295⟩, st295⟩ := Jvm.LawKit.callS X294 hx (y := (⟨"com/example/delay_buckets/delaybuckets/Names", "isAllowed", "(C)Z"⟩ : MethodName)) hown (mvT hZ (hw _ (List.mem_of_getElem? (i := 68) rfl))) (mvT hZ (hw _ (List.mem_of_getElem? (i := 69) rfl))) (mvT hZ (hw _ (List.mem_of_getElem? (i := 25) rfl))) (mvT hZ (hw _ (List.mem_of_getElem? (i := 70) rfl))) (by decide) (backOf (W := 0) (rmIsa l Z a0 hw [] (cs.getD j 0) h0 n0 (by omega)) hZ (hw _ (List.mem_of_getElem? (i := 70) rfl)) (hw _ (List.mem_of_getElem? (i := 25) rfl)) (by decide) (by decide)) (g := (mkF m 38 #[.val (.ref o0), .val (.int (Int32.ofNat j))] [(.int (cs.getD j 0))])) rfl (by rw [hml]; rfl) (argsL := [(.int (cs.getD j 0))]) (rest := []) (lenOf pd_12 rfl) rfl (by show 2 * 0 + _ ≤ _; exact Nat.le_of_eq rfl) (hb hby d4_38) (fun _ _ => ⟨rfl, e294, (by decide : 0 + 0 ≤ _), (by decide : 0 + 0 ≤ _)⟩)
        dsimp only [Pt.U, Pt.locs, Pt.cells, Pt.slots] at X295 l295 y295 z295 st295 hQ295
        subst l295 y295 z295
        obtain ⟨rfl, N295q, e295⟩ := hQ295
        have N295 := Fr.app N294 N295q
        obtain ⟨fs, hr, hrun, hended, hW, hsame⟩ := X295.leave (v := some (.int (0 : Int32))) (fun h => by rw [Bd.returns] at h; cases h)
        refine ⟨_, _, pre292 _ ?_, hrun, hended, _, _, rfl, ?_, ⟨_, rfl⟩, hW, hsame.mono (by decide) (by decide)⟩
        · show Steps p.tables e below (T291.setTop (mkF m 30 #[.val (.ref o0), .val (.int (Int32.ofNat j))] [(.int (Int32.ofNat cs.length)), (.int (Int32.ofNat j))])) _
          refine XS.icmpNo X291.here hx rfl (hb hby d4_30) rfl (tlt (hc293 : (Int32.ofNat j) < (Int32.ofNat cs.length))).2.1 ?_
          show Steps p.tables e below (T291.setTop (mkF m 33 #[.val (.ref o0), .val (.int (Int32.ofNat j))] [])) _
          refine XS.aloadN X291.here hx rfl (hb hby d4_33) rfl rfl ?_
          show Steps p.tables e below (T291.setTop (mkF m 34 #[.val (.ref o0), .val (.int (Int32.ofNat j))] [(.ref o0)])) _
          refine XS.iloadN X291.here hx rfl (hb hby d4_34) rfl ?_
          show Steps p.tables e below (T291.setTop (mkF m 35 #[.val (.ref o0), .val (.int (Int32.ofNat j))] [(.int (Int32.ofNat j)), (.ref o0)])) _
          refine st294.trans ?_
          show Steps p.tables e below (T294.setTop (mkF m 38 #[.val (.ref o0), .val (.int (Int32.ofNat j))] [(.int (cs.getD j 0))])) _
          refine st295 _ ?_
          show Steps p.tables e below (T295.setTop (mkF m 41 #[.val (.ref o0), .val (.int (Int32.ofNat j))] [(.int (bi (own_ok (cs.getD j 0))))])) _
          refine XS.ifNo X295.here hx rfl (hb hby d4_41) rfl ((if0 _ _).trans (teq ((bi_f (jc ((own_ltn (by omega) (by omega)).mp hc293))) : (bi (own_ok (cs.getD j 0))) = (0 : Int32))).2) ?_
          show Steps p.tables e below (T295.setTop (mkF m 44 #[.val (.ref o0), .val (.int (Int32.ofNat j))] [])) _
          refine XS.iconst X295.here hx rfl (hb hby d4_44) ?_
          show Steps p.tables e below (T295.setTop (mkF m 45 #[.val (.ref o0), .val (.int (Int32.ofNat j))] [(.int (0 : Int32))])) _
          exact retN X295 hx (t := .boolean) Bd.returns (by simp) (hb hby d4_45) hr
        · show QrmIvs Z o0 G1 cs bv kb z M bs fm h0 n0 _ T295.heap _
          rw [e295]
          exact ⟨(congrArg (fun x => some (Value.int x)) (bi_f (fun q => jc ((own_ltn (by omega) (by omega)).mp hc293) (own_get q.2.2 ((own_ltn (by omega) (by omega)).mp hc293)))).symm), N295, rfl⟩
      · obtain ⟨fs, hr, hrun, hended, hW, hsame⟩ := X291.leave (v := some (.int (1 : Int32))) (fun h => by rw [Bd.returns] at h; cases h)
        have jn : ¬ (j < cs.length) := fun k => hc293 ((own_ltn (by omega) (by omega)).mpr k)
        have j128 : ¬ (128 < cs.length) := fun k => hc279 ((own_ltn (a := 128) (by omega) (by omega)).mpr k)
        refine ⟨_, _, pre292 _ ?_, hrun, hended, _, _, rfl, ?_, ⟨_, rfl⟩, hW, hsame.mono (by decide) (by decide)⟩
        · show Steps p.tables e below (T291.setTop (mkF m 30 #[.val (.ref o0), .val (.int (Int32.ofNat j))] [(.int (Int32.ofNat cs.length)), (.int (Int32.ofNat j))])) _
          refine XS.icmpYes X291.here hx rfl (pc0 := 30) (pc' := 52) rfl (hb hby d4_30) rfl (flt (hc293 : ¬ ((Int32.ofNat j) < (Int32.ofNat cs.length)))).2.1 (by decide) (by decide) ?_
          show Steps p.tables e below (T291.setTop (mkF m 52 #[.val (.ref o0), .val (.int (Int32.ofNat j))] [])) _
          refine XS.iconst X291.here hx rfl (hb hby d4_52) ?_
          show Steps p.tables e below (T291.setTop (mkF m 53 #[.val (.ref o0), .val (.int (Int32.ofNat j))] [(.int (1 : Int32))])) _
          exact retN X291 hx (t := .boolean) Bd.returns (by simp) (hb hby d4_53) hr
        · show QrmIvs Z o0 G1 cs bv kb z M bs fm h0 n0 _ T291.heap _
          rw [e291]
          exact ⟨(congrArg (fun x => some (Value.int x)) (bi_t ⟨hc276, by omega, own_mem (fun i hi => jb i (by omega))⟩).symm), N291, rfl⟩
theorem own_extT {a b c : Heap} (h1 : Ext a b) (h2 : Ext b c) : Ext a c := ⟨Nat.le_trans h1.1 h2.1, fun x y k => h2.2 x y (h1.2 x y k)⟩
theorem own_IBw {Z s : State} {vm0 vm1 : Vm} {Ts : List String} (I : IB Z vm0 Ts) (h : (s.setVm vm0).WarmedH vm1) : IB Z vm1 Ts := by
  obtain ⟨more, e, m⟩ := I
  exact ⟨more, h.interned_eq.trans e, m⟩
theorem backOfI {p : Program} {l : Launch} {e : Env} {R : Room} {s : State} {args : Array Value} {below : List Frame} {Z : State} {a0 : Array Value} {h : Heap} {Ts : List String} {y : MethodName} {bytes : ByteArray} {maxL : Nat} {ret : Option FieldType} {rm : Room} {len W : Nat} {as' : Array Value} {Q : Option Value → Heap → List Loc → Prop}
    (hM : MetFree l y (head1 [Jvm.Cond.code y bytes maxL ret] rm) (fun a U => a = as' ∧ Z.Warmed39 U.vm ∧ U.heap = h ∧ IB Z U.vm Ts) (fun _ _ _ _ _ => True) (fun _ U o U' => ∃ v L, o = .returned v ∧ Q v U'.heap L ∧ ReturnedEndW U o U' L rm.cells rm.slots))
    (hZ : Z.Warmed39 s.vm) (wc : (Jvm.Cond.code y bytes maxL ret).before a0 Z = true) (wz : (Jvm.Cond.initialized y.cls).before a0 Z = true) (hf : rm.frames + 1 ≤ R.frames) (hl : W + (maxL + 11) + rm.locals ≤ R.locals) :
    BackS l R p e below s args y len W (fun A a => a = as' ∧ A.U.heap = h ∧ A.cells + rm.cells ≤ R.cells ∧ A.slots + rm.slots ≤ R.slots ∧ IB Z A.U.vm Ts)
      (fun A _ v B => ∃ L, Q v B.U.heap L ∧ B.locs = A.locs ++ L ∧ B.cells = A.cells + rm.cells ∧ B.slots = A.slots + rm.slots) :=
  BackS.of_freeW (bytes := bytes) (maxL := maxL) (ret := ret) (E := fun _ _ o t L k n => k = rm.cells ∧ n = rm.slots ∧ ∃ v, o = .returned v ∧ Q v t.heap L) hM hf hl
    (fun m meth c A a Y hp => have hU : Z.Warmed39 A.U.vm := wtrans hZ Y.warmed
      ⟨by show (Jvm.Cond.and _ .tt).before a A.U = true; rw [Cond.before_and, mv hU wc]; rfl, mv hU wc, mv hU wz, hp.2.2.1, hp.2.2.2.1⟩)
    (fun m meth c A a g mk Y hp => ⟨hp.1, wtrans hZ Y.warmed, hp.2.1, hp.2.2.2.2⟩) (fun _ _ _ _ _ _ _ _ _ => trivial)
    (fun _ _ _ _ ⟨v, L, h1, h2, h3⟩ => ⟨L, _, _, h3, rfl, rfl, v, h1, h2⟩)
    (fun m meth c A a g mk v t L k n Y hp _ _ ⟨e1, e2, v', e3, e4⟩ => by cases e3; subst e1 e2; exact ⟨L, e4, rfl, rfl, rfl⟩)
theorem own_codn {cs : List Int32} (h : Int32.ofNat cs.length = 0) (hn : cs.length ≤ 12) : own_cod cs 0 0 [] := by
  have e : cs.length = 0 := (own_eqi (b := 0) (by omega) (by decide)).mp h
  obtain rfl := List.length_eq_zero_iff.mp e
  exact Or.inl ⟨rfl, rfl, rfl, fun c hc => by cases hc⟩
theorem d2_0 : decode jdk_42_method_149_code 0 = .ok (.aload_n 0, 1) := by decide +kernel
theorem d2_1 : decode jdk_42_method_149_code 1 = .ok (.invokespecial 1, 3) := by decide +kernel
theorem d2_4 : decode jdk_42_method_149_code 4 = .ok (.iload_n 3, 1) := by decide +kernel
theorem d2_5 : decode jdk_42_method_149_code 5 = .ok (.ifCond .ne 22, 3) := by decide +kernel
theorem d2_8 : decode jdk_42_method_149_code 8 = .ok (.aload_n 0, 1) := by decide +kernel
theorem d2_9 : decode jdk_42_method_149_code 9 = .ok (.ldc 7, 2) := by decide +kernel
theorem own_sa : ∀ d ∈ Bundle.stringAtoms, d ∈ tables_1 := by decide +kernel
theorem d2_11 : decode jdk_42_method_149_code 11 = .ok (.getfield 9, 3) := by decide +kernel
theorem d2_14 : decode jdk_42_method_149_code 14 = .ok (.putfield 9, 3) := by decide +kernel
theorem d2_17 : decode jdk_42_method_149_code 17 = .ok (.aload_n 0, 1) := by decide +kernel
theorem d2_18 : decode jdk_42_method_149_code 18 = .ok (.ldc 7, 2) := by decide +kernel
theorem d2_20 : decode jdk_42_method_149_code 20 = .ok (.getfield 15, 3) := by decide +kernel
theorem d2_23 : decode jdk_42_method_149_code 23 = .ok (.putfield 15, 3) := by decide +kernel
theorem d2_26 : decode jdk_42_method_149_code 26 = .ok (.return_, 1) := by decide +kernel
theorem d2_27 : decode jdk_42_method_149_code 27 = .ok (.getstatic 38, 3) := by decide +kernel
theorem d2_30 : decode jdk_42_method_149_code 30 = .ok (.ifCond .eq 28, 3) := by decide +kernel
theorem d2_33 : decode jdk_42_method_149_code 33 = .ok (.aload_n 1, 1) := by decide +kernel
theorem d2_34 : decode jdk_42_method_149_code 34 = .ok (.iload_n 2, 1) := by decide +kernel
theorem d2_35 : decode jdk_42_method_149_code 35 = .ok (.iload_n 3, 1) := by decide +kernel
theorem d2_36 : decode jdk_42_method_149_code 36 = .ok (.invokestatic 177, 3) := by decide +kernel
theorem d2_39 : decode jdk_42_method_149_code 39 = .ok (.astore 5, 2) := by decide +kernel
theorem d2_41 : decode jdk_42_method_149_code 41 = .ok (.aload_n 0, 1) := by decide +kernel
theorem d2_42 : decode jdk_42_method_149_code 42 = .ok (.aload 5, 2) := by decide +kernel
theorem d2_44 : decode jdk_42_method_149_code 44 = .ok (.iload_n 3, 1) := by decide +kernel
theorem d2_45 : decode jdk_42_method_149_code 45 = .ok (.invokestatic 47, 3) := by decide +kernel
theorem pd_15 : parseMethodDescriptor "([BI)B" = some ⟨[(.array .byte), .int], some .byte⟩ := by decide +kernel
theorem d2_48 : decode jdk_42_method_149_code 48 = .ok (.putfield 15, 3) := by decide +kernel
theorem d2_51 : decode jdk_42_method_149_code 51 = .ok (.aload_n 0, 1) := by decide +kernel
theorem d2_52 : decode jdk_42_method_149_code 52 = .ok (.aload 5, 2) := by decide +kernel
theorem d2_54 : decode jdk_42_method_149_code 54 = .ok (.putfield 9, 3) := by decide +kernel
theorem d2_57 : decode jdk_42_method_149_code 57 = .ok (.return_, 1) := by decide +kernel
theorem ef_rmN4 (m : MethodId) (o0 : Addr) (o1 : Addr) (cs : List Int32) : entryFrame m #[(.ref o0), (.ref o1), (.int (0 : Int32)), (.int (Int32.ofNat cs.length)), .null] 6 = mkF m 0 #[.val (.ref o0), .val (.ref o1), .val (.int (0 : Int32)), .val (.int (Int32.ofNat cs.length)), .val .null, .unset] [] := by first | (simp [entryFrame, mkF, argsToLocals, Value.category]; done) | rfl
def QrmN4 (Z : State) (o0 : Addr) (o1 : Addr) (G1 : Int32) (kc : ClassId) (cs : List Int32) (h0 : Heap) (n0 : Nat) (v : Option Value) (h : Heap) (L : List Loc) : Prop := ∃ bv : Addr, ∃ kb : ClassId, ∃ z : Int32, ∃ M : Nat, ∃ bs : List Value, v = none ∧ Fr n0 L ∧ Keep h0 h [o0] ∧ Exa Z h o0 "java/lang/String" ∧ Fld Z h o0 "java/lang/String" "value" "[B" (.ref bv) ∧ Fld Z h o0 "java/lang/String" "coder" "B" (.int z) ∧ Arv Z h bv kb .byte (Int32.ofNat M) bs (.int (0 : Int32)) ∧ (own_cod cs z M bs)
set_option maxRecDepth 65536 in
set_option maxHeartbeats 40000000 in
theorem rmN4 (l : Launch) (Z : State) (a0 : Array Value) (hw : ∀ d ∈ tables_1, d.before a0 Z = true) (ws : List Jvm.Cond) (o0 : Addr) (o1 : Addr) (G1 : Int32) (kc : ClassId) (cs : List Int32) (h0 : Heap) (n0 : Nat) (Z0 : n0 ≤ h0.size) (H0 : Sta Z h0 "java/lang/StringUTF16" "$assertionsDisabled" "Z" (.int (1 : Int32))) (H1 : Sta Z h0 "java/lang/StringUTF16" "HI_BYTE_SHIFT" "I" (.int (0 : Int32))) (H2 : Sta Z h0 "java/lang/StringUTF16" "LO_BYTE_SHIFT" "I" (.int (8 : Int32))) (H3 : Sta Z h0 "java/lang/String" "COMPACT_STRINGS" "Z" (.int G1)) (hG1 : ¬ (G1 = (0 : Int32))) (X00 : Ext Z.heap h0) (hcw : Jvm.Lit.compactW.before a0 Z = true) (hh7 : Jvm.Lit.constHeld Z "java/lang/String" 7) (H8 : Exa Z h0 o0 "java/lang/String") (H9 : Fld Z h0 o0 "java/lang/String" "value" "[B" .null) (H10 : Fld Z h0 o0 "java/lang/String" "coder" "B" (.int (0 : Int32))) (H11 : Arv Z h0 o1 kc .char (Int32.ofNat cs.length) (cs.map Value.int) (.int (0 : Int32))) (H12 : n0 ≤ o0) (hn : cs.length ≤ 12) (hbd : own_bd cs) :
    MetFree l (⟨"java/lang/String", "<init>", "([CIILjava/lang/Void;)V"⟩ : MethodName) (head1 (Jvm.Cond.code (⟨"java/lang/String", "<init>", "([CIILjava/lang/Void;)V"⟩ : MethodName) jdk_42_method_149_code 6 none :: ws) ({ frames := 4, cells := 2, slots := 36, locals := 57 } : Room)) (fun a U => a = #[(.ref o0), (.ref o1), (.int (0 : Int32)), (.int (Int32.ofNat cs.length)), .null] ∧ Z.Warmed39 U.vm ∧ U.heap = h0 ∧ IB Z U.vm []) (fun _ _ _ _ _ => True) (fun _ U o U' => ∃ v L, o = .returned v ∧ QrmN4 Z o0 o1 G1 kc cs h0 n0 v U'.heap L ∧ ReturnedEndW U o U' L ({ frames := 4, cells := 2, slots := 36, locals := 57 } : Room).cells ({ frames := 4, cells := 2, slots := 36, locals := 57 } : Room).slots) := by
  refine MetFree.of_bodySF (plainFor_of_name pn_5) hisR ?_
  intro p e s m args below meth c s₁ Bd hml0 hP hK
  obtain ⟨rfl, hZ, hh, hI⟩ := hP
  have hx := Bd.exec
  have hby := Bd.bytes
  have hml : c.maxLocals = 6 := hml0
  have hown : s.vm.findClass "java/lang/String" = some m.cls := findClass_of_methodNamed Bd.named
  have hnm := (name_of_methodNamed Bd.named Bd.method).1
  have X0 : Stand p l e ({ frames := 4, cells := 2, slots := 36, locals := 57 } : Room) s m #[(.ref o0), (.ref o1), (.int (0 : Int32)), (.int (Int32.ofNat cs.length)), .null] below meth c s₁ [] 0 0 := Stand.of_body Bd
  have e0 : s₁.heap = h0 := by rw [← hh, Bd.state]; rfl
  have N0 := Fr.nil n0
  have pre0 : ∀ t, Steps p.tables e below (s₁.setTop (mkF m 0 #[.val (.ref o0), .val (.ref o1), .val (.int (0 : Int32)), .val (.int (Int32.ofNat cs.length)), .val .null, .unset] [])) t → Steps p.tables e below (s₁.setTop (entryFrame m #[(.ref o0), (.ref o1), (.int (0 : Int32)), (.int (Int32.ofNat cs.length)), .null] 6)) t := fun t k => castTop (ef_rmN4 m o0 o1 cs) k
  have z296 : @LT.lt Nat _ o0 (Array.size h0) := H8.lt
  have z297 : @LT.lt Nat _ o0 (Array.size h0) := H9.lt
  have z298 : @LT.lt Nat _ o0 (Array.size h0) := H10.lt
  have z299 : @LT.lt Nat _ o1 (Array.size h0) := H11.lt
  have KC0 : Keep h0 h0 [o0] := Keep.refl _ _
  have hS0 : s.Since s.vm h0.size := (State.WarmedH.refl s).since _
  obtain ⟨T300, X300, e300, st300⟩ := initO X0 hx hZ hown (hw _ (List.mem_of_getElem? (i := 12) rfl)) (hw _ (List.mem_of_getElem? (i := 13) rfl)) (hw _ (List.mem_of_getElem? (i := 14) rfl)) e0 (g := (mkF m 1 #[.val (.ref o0), .val (.ref o1), .val (.int (0 : Int32)), .val (.int (Int32.ofNat cs.length)), .val .null, .unset] [(.ref o0)])) rfl (by rw [hml]; rfl) rfl (hb hby d2_1) (by decide) (W := 0) (by show 2 * 0 + _ ≤ _; exact Nat.le_of_eq rfl) (by decide)
  have pre301 : ∀ t, Steps p.tables e below (T300.setTop (mkF m 5 #[.val (.ref o0), .val (.ref o1), .val (.int (0 : Int32)), .val (.int (Int32.ofNat cs.length)), .val .null, .unset] [(.int (Int32.ofNat cs.length))])) t → Steps p.tables e below (s₁.setTop (entryFrame m #[(.ref o0), (.ref o1), (.int (0 : Int32)), (.int (Int32.ofNat cs.length)), .null] 6)) t := fun t k => by
    refine pre0 _ ?_
    show Steps p.tables e below (s₁.setTop (mkF m 0 #[.val (.ref o0), .val (.ref o1), .val (.int (0 : Int32)), .val (.int (Int32.ofNat cs.length)), .val .null, .unset] [])) _
    refine XS.aloadN X0.here hx rfl (hb hby d2_0) rfl rfl ?_
    show Steps p.tables e below (s₁.setTop (mkF m 1 #[.val (.ref o0), .val (.ref o1), .val (.int (0 : Int32)), .val (.int (Int32.ofNat cs.length)), .val .null, .unset] [(.ref o0)])) _
    refine st300 _ ?_
    show Steps p.tables e below (T300.setTop (mkF m 4 #[.val (.ref o0), .val (.ref o1), .val (.int (0 : Int32)), .val (.int (Int32.ofNat cs.length)), .val .null, .unset] [])) _
    refine XS.iloadN X300.here hx rfl (hb hby d2_4) rfl ?_
    exact k
  by_cases hc302 : (Int32.ofNat cs.length) = (0 : Int32)
  · obtain ⟨a303, T303, h303, k303, bv303, kb303, X303, e303, E303, hS303, z303k, hZ303, hw303, PE303, PC303, PV303, PA303, z303a, z303b, hI303, Lt303, st303⟩ := ldcSVL (s := s) (vm0 := s.vm) X300 hx hZ hown (hw _ (List.mem_of_getElem? (i := 15) rfl)) (fun d hd => hw d (own_sa d hd)) e300 hS0 (by omega) (by rw [hh]; exact Fr.nil _) (fun b cl q => by rw [hh]; exact X00.2 b cl q) hI (by decide) hh7 hcw (vs := []) (z := (0 : Int32)) ⟨by decide, rfl⟩ (by decide) rfl (g := (mkF m 9 #[.val (.ref o0), .val (.ref o1), .val (.int (0 : Int32)), .val (.int (Int32.ofNat cs.length)), .val .null, .unset] [(.ref o0)])) rfl (hb hby d2_9) (n := 0) (by decide) (by decide) (by decide) (by decide)
    have z304 := E303.1
    have KC305 : Keep h0 h303 [o0] := KC0.ext E303
    have z306 : @LT.lt Nat _ a303 (Array.size h303) := PE303.lt
    have z307 : @LT.lt Nat _ bv303 (Array.size h303) := PA303.lt
    have Fc309 := (H9.ext E303)
    have nA308 : @Ne Nat a303 o0 := Fld.ne PV303 Fc309 (by simp)
    have Fc310 := (H8.ext E303)
    have nB308 : @Ne Nat o0 bv303 := Exa.neArv Fc310 PA303 (hw _ (List.mem_of_getElem? (i := 3) rfl))
    obtain ⟨T311, X311, e311, st311⟩ := getF X303 hx hZ303 hw303 (host := "") (Or.inl (hw _ (List.mem_of_getElem? (i := 21) rfl))) Via.refl e303 PV303 (g := (mkF m 11 #[.val (.ref o0), .val (.ref o1), .val (.int (0 : Int32)), .val (.int (Int32.ofNat cs.length)), .val .null, .unset] [(.ref a303), (.ref o0)])) rfl rfl (hb hby d2_11)
    obtain ⟨T312, h312, X312, e312, W312, st312⟩ := putF X311 hx hZ303 hw303 (host := "") (Or.inl (hw _ (List.mem_of_getElem? (i := 21) rfl))) Via.refl e311 Fc309 Fc310 (Or.inr ⟨(hw _ (List.mem_of_getElem? (i := 17) rfl)), rfl, hnm⟩) (hw _ (List.mem_of_getElem? (i := 3) rfl)) (ty := (.array .byte)) (by decide) rfl rfl (g := (mkF m 14 #[.val (.ref o0), .val (.ref o1), .val (.int (0 : Int32)), .val (.int (Int32.ofNat cs.length)), .val .null, .unset] [(.ref bv303), (.ref o0)])) rfl rfl (hb hby d2_14)
    have z313 := W312.size
    have N312 := Fr.snoc X312 N0 (by omega : n0 ≤ o0)
    have KC314 : Keep h0 h312 [o0] := KC305.wr W312 (Or.inl (List.mem_of_getElem? (i := 0) rfl))
    have Fw312 := Fc309.same W312
    have Fc316 := (PC303.other W312 (Or.inl (by omega : @Ne Nat a303 o0)))
    obtain ⟨T317, X317, e317, st317⟩ := getF X312 hx hZ303 hw303 (host := "") (Or.inl (hw _ (List.mem_of_getElem? (i := 22) rfl))) Via.refl e312 Fc316 (g := (mkF m 20 #[.val (.ref o0), .val (.ref o1), .val (.int (0 : Int32)), .val (.int (Int32.ofNat cs.length)), .val .null, .unset] [(.ref a303), (.ref o0)])) rfl rfl (hb hby d2_20)
    have Fc318 := (Fc310.wr W312)
    have Fc319 := ((H10.ext E303).other W312 (Or.inr (slot_ne (Or.inr (hw _ (List.mem_of_getElem? (i := 18) rfl))) (Or.inr (hw _ (List.mem_of_getElem? (i := 17) rfl))) (by decide) (t := .byte) (t' := (.array .byte)) (by decide) (by decide))))
    obtain ⟨T320, h320, X320, e320, W320, st320⟩ := putFN X317 hx hZ303 hw303 (hw _ (List.mem_of_getElem? (i := 22) rfl)) Via.refl e317 Fc319 Fc318 (Or.inr ⟨(hw _ (List.mem_of_getElem? (i := 18) rfl)), rfl, hnm⟩) (hw _ (List.mem_of_getElem? (i := 3) rfl)) (ty := .byte) (v' := (.int (0 : Int32))) (by decide) rfl (by decide) (g := (mkF m 23 #[.val (.ref o0), .val (.ref o1), .val (.int (0 : Int32)), .val (.int (Int32.ofNat cs.length)), .val .null, .unset] [(.int (0 : Int32)), (.ref o0)])) rfl rfl (hb hby d2_23)
    have z321 := W320.size
    have N320 := Fr.snoc X320 N312 (by omega : n0 ≤ o0)
    have KC322 : Keep h0 h320 [o0] := KC314.wr W320 (Or.inl (List.mem_of_getElem? (i := 0) rfl))
    have Fw320 := Fc319.same W320
    have z323 := congrArg Array.size e320
    obtain ⟨fs, hr, hrun, hended, rE1, rE2, rE3, rE4⟩ := leaveW (s := s) (vm₁ := T303.vm) X320 hS303 (by omega : k303 ≤ T320.heap.size) (v := none) (fun _ => rfl)
    have Fc324 := ((PA303.other W312 (by omega : @Ne Nat bv303 o0)).other W320 (by omega : @Ne Nat bv303 o0))
    have Fc325 := (Fc318.wr W320)
    have Fc326 := (Fw312.other W320 (Or.inr (slot_ne (Or.inr (hw _ (List.mem_of_getElem? (i := 17) rfl))) (Or.inr (hw _ (List.mem_of_getElem? (i := 18) rfl))) (by decide) (t := (.array .byte)) (t' := .byte) (by decide) (by decide))))
    refine ⟨_, _, pre301 _ ?_, hrun, hended, _, _, rfl, ?_, rE1, rE2, rE3, rE4.mono (by decide) (by decide)⟩
    · show Steps p.tables e below (T300.setTop (mkF m 5 #[.val (.ref o0), .val (.ref o1), .val (.int (0 : Int32)), .val (.int (Int32.ofNat cs.length)), .val .null, .unset] [(.int (Int32.ofNat cs.length))])) _
      refine XS.ifNo X300.here hx rfl (hb hby d2_5) rfl ((if0 _ _).trans (teq (hc302 : (Int32.ofNat cs.length) = (0 : Int32))).2) ?_
      show Steps p.tables e below (T300.setTop (mkF m 8 #[.val (.ref o0), .val (.ref o1), .val (.int (0 : Int32)), .val (.int (Int32.ofNat cs.length)), .val .null, .unset] [])) _
      refine XS.aloadN X300.here hx rfl (hb hby d2_8) rfl rfl ?_
      show Steps p.tables e below (T300.setTop (mkF m 9 #[.val (.ref o0), .val (.ref o1), .val (.int (0 : Int32)), .val (.int (Int32.ofNat cs.length)), .val .null, .unset] [(.ref o0)])) _
      refine st303 _ ?_
      show Steps p.tables e below (T303.setTop (mkF m 11 #[.val (.ref o0), .val (.ref o1), .val (.int (0 : Int32)), .val (.int (Int32.ofNat cs.length)), .val .null, .unset] [(.ref a303), (.ref o0)])) _
      refine st311 _ ?_
      show Steps p.tables e below (T311.setTop (mkF m 14 #[.val (.ref o0), .val (.ref o1), .val (.int (0 : Int32)), .val (.int (Int32.ofNat cs.length)), .val .null, .unset] [(.ref bv303), (.ref o0)])) _
      refine st312 _ ?_
      show Steps p.tables e below (T312.setTop (mkF m 17 #[.val (.ref o0), .val (.ref o1), .val (.int (0 : Int32)), .val (.int (Int32.ofNat cs.length)), .val .null, .unset] [])) _
      refine XS.aloadN X312.here hx rfl (hb hby d2_17) rfl rfl ?_
      show Steps p.tables e below (T312.setTop (mkF m 18 #[.val (.ref o0), .val (.ref o1), .val (.int (0 : Int32)), .val (.int (Int32.ofNat cs.length)), .val .null, .unset] [(.ref o0)])) _
      refine ldcAgain (s := s) (vm0 := T303.vm) X312 hx hZ303 hw303 (hw _ (List.mem_of_getElem? (i := 15) rfl)) Lt303 (g := (mkF m 18 #[.val (.ref o0), .val (.ref o1), .val (.int (0 : Int32)), .val (.int (Int32.ofNat cs.length)), .val .null, .unset] [(.ref o0)])) rfl (hb hby d2_18) _ ?_
      show Steps p.tables e below (T312.setTop (mkF m 20 #[.val (.ref o0), .val (.ref o1), .val (.int (0 : Int32)), .val (.int (Int32.ofNat cs.length)), .val .null, .unset] [(.ref a303), (.ref o0)])) _
      refine st317 _ ?_
      show Steps p.tables e below (T317.setTop (mkF m 23 #[.val (.ref o0), .val (.ref o1), .val (.int (0 : Int32)), .val (.int (Int32.ofNat cs.length)), .val .null, .unset] [(.int (0 : Int32)), (.ref o0)])) _
      refine st320 _ ?_
      show Steps p.tables e below (T320.setTop (mkF m 26 #[.val (.ref o0), .val (.ref o1), .val (.int (0 : Int32)), .val (.int (Int32.ofNat cs.length)), .val .null, .unset] [])) _
      exact X320.returnOut hx Bd.returns (hb hby d2_26) hr
    · show QrmN4 Z o0 o1 G1 kc cs h0 n0 _ T320.heap _
      rw [e320]
      exact ⟨bv303, kb303, (0 : Int32), 0, [], rfl, N320, KC322, Fc325, Fc326, Fw320, Fc324, (own_codn hc302 hn)⟩
  · obtain ⟨T327, X327, e327, st327⟩ := getS2 X300 hx hZ hown (host := "") (Or.inl (hw _ (List.mem_of_getElem? (i := 43) rfl))) Via.refl e300 H3 (g := (mkF m 27 #[.val (.ref o0), .val (.ref o1), .val (.int (0 : Int32)), .val (.int (Int32.ofNat cs.length)), .val .null, .unset] [])) rfl (hb hby d2_27)
    obtain ⟨_, _, ⟨T328, L328, k328, n328⟩, -, X328, ⟨Lc328, hQ328, l328, y328, z328⟩, st328⟩ := Jvm.LawKit.callS X327 hx (y := (⟨"java/lang/StringUTF16", "compress", "([CII)[B"⟩ : MethodName)) hown (mvT hZ (hw _ (List.mem_of_getElem? (i := 78) rfl))) (mvT hZ (hw _ (List.mem_of_getElem? (i := 79) rfl))) (mvT hZ (hw _ (List.mem_of_getElem? (i := 80) rfl))) (mvT hZ (hw _ (List.mem_of_getElem? (i := 81) rfl))) (by decide) (backOf (W := 0) (rmC3 l Z a0 hw [] o1 kc cs h0 n0 (by omega) H0 H1 H2 H11 (hn : cs.length ≤ 12) (hbd : own_bd cs)) hZ (hw _ (List.mem_of_getElem? (i := 81) rfl)) (hw _ (List.mem_of_getElem? (i := 80) rfl)) (by decide) (by decide)) (g := (mkF m 36 #[.val (.ref o0), .val (.ref o1), .val (.int (0 : Int32)), .val (.int (Int32.ofNat cs.length)), .val .null, .unset] [(.int (Int32.ofNat cs.length)), (.int (0 : Int32)), (.ref o1)])) rfl (by rw [hml]; rfl) (argsL := [(.ref o1), (.int (0 : Int32)), (.int (Int32.ofNat cs.length))]) (rest := []) (lenOf pd_4 rfl) rfl (by show 2 * 0 + _ ≤ _; exact Nat.le_of_eq rfl) (hb hby d2_36) (fun _ _ => ⟨rfl, e327, (by decide : 0 + 2 ≤ _), (by decide : 0 + 36 ≤ _)⟩)
    dsimp only [Pt.U, Pt.locs, Pt.cells, Pt.slots] at X328 l328 y328 z328 st328 hQ328
    subst l328 y328 z328
    obtain ⟨r_328, kb_328, z_328, M_328, bs_328, rfl, N328q, K328, P328_0, P328_1, P328_2⟩ := hQ328
    have N328 := Fr.app N0 N328q
    have z329 := K328.1
    have KC330 : Keep h0 T328.heap [o0] := KC0.trans K328 all0
    have z331 : @LT.lt Nat _ r_328 (Array.size T328.heap) := P328_0.lt
    have z332 : @LE.le Nat _ (Array.size h0) r_328 := P328_2
    obtain ⟨_, _, ⟨T333, L333, k333, n333⟩, -, X333, ⟨Lc333, hQ333, l333, y333, z333⟩, st333⟩ := Jvm.LawKit.callS X328 hx (y := (⟨"java/lang/StringUTF16", "coderFromArrayLen", "([BI)B"⟩ : MethodName)) hown (mvT hZ (hw _ (List.mem_of_getElem? (i := 85) rfl))) (mvT hZ (hw _ (List.mem_of_getElem? (i := 86) rfl))) (mvT hZ (hw _ (List.mem_of_getElem? (i := 80) rfl))) (mvT hZ (hw _ (List.mem_of_getElem? (i := 87) rfl))) (by decide) (backOf (W := 1) (rmCfl l Z a0 hw [] r_328 cs kb_328 z_328 M_328 bs_328 T328.heap n0 (by omega) P328_0 (P328_1 : own_cod cs z_328 M_328 bs_328) (hn : cs.length ≤ 12)) hZ (hw _ (List.mem_of_getElem? (i := 87) rfl)) (hw _ (List.mem_of_getElem? (i := 80) rfl)) (by decide) (by decide)) (g := (mkF m 45 #[.val (.ref o0), .val (.ref o1), .val (.int (0 : Int32)), .val (.int (Int32.ofNat cs.length)), .val .null, .val (.ref r_328)] [(.int (Int32.ofNat cs.length)), (.ref r_328), (.ref o0)])) rfl (by rw [hml]; rfl) (argsL := [(.ref r_328), (.int (Int32.ofNat cs.length))]) (rest := [(.ref o0)]) (lenOf pd_15 rfl) rfl (by show 2 * 0 + _ ≤ _; exact Nat.le_of_eq rfl) (hb hby d2_45) (fun _ _ => ⟨rfl, rfl, (by decide : 2 + 0 ≤ _), (by decide : 36 + 0 ≤ _)⟩)
    dsimp only [Pt.U, Pt.locs, Pt.cells, Pt.slots] at X333 l333 y333 z333 st333 hQ333
    subst l333 y333 z333
    obtain ⟨rfl, N333q, e333⟩ := hQ333
    have N333 := Fr.app N328 N333q
    have hz01 := own_c01 P328_1
    have Fc334 := (H8.keep K328)
    have Fc335 := (H10.keep K328 nin0)
    obtain ⟨T336, h336, X336, e336, W336, st336⟩ := putFN X333 hx hZ hown (hw _ (List.mem_of_getElem? (i := 22) rfl)) Via.refl e333 Fc335 Fc334 (Or.inr ⟨(hw _ (List.mem_of_getElem? (i := 18) rfl)), rfl, hnm⟩) (hw _ (List.mem_of_getElem? (i := 3) rfl)) (ty := .byte) (v' := (.int z_328)) (by decide) (by rcases hz01 with q | q <;> rw [q] <;> rfl) (by rcases hz01 with q | q <;> rw [q] <;> rfl) (g := (mkF m 48 #[.val (.ref o0), .val (.ref o1), .val (.int (0 : Int32)), .val (.int (Int32.ofNat cs.length)), .val .null, .val (.ref r_328)] [(.int z_328), (.ref o0)])) rfl rfl (hb hby d2_48)
    have z337 := W336.size
    have N336 := Fr.snoc X336 N333 (by omega : n0 ≤ o0)
    have KC338 : Keep h0 h336 [o0] := KC330.wr W336 (Or.inl (List.mem_of_getElem? (i := 0) rfl))
    have Fw336 := Fc335.same W336
    have Fc339 := (Fc334.wr W336)
    have Fc340 := ((H9.keep K328 nin0).other W336 (Or.inr (slot_ne (Or.inr (hw _ (List.mem_of_getElem? (i := 17) rfl))) (Or.inr (hw _ (List.mem_of_getElem? (i := 18) rfl))) (by decide) (t := (.array .byte)) (t' := .byte) (by decide) (by decide))))
    obtain ⟨T341, h341, X341, e341, W341, st341⟩ := putF X336 hx hZ hown (host := "") (Or.inl (hw _ (List.mem_of_getElem? (i := 21) rfl))) Via.refl e336 Fc340 Fc339 (Or.inr ⟨(hw _ (List.mem_of_getElem? (i := 17) rfl)), rfl, hnm⟩) (hw _ (List.mem_of_getElem? (i := 3) rfl)) (ty := (.array .byte)) (by decide) rfl rfl (g := (mkF m 54 #[.val (.ref o0), .val (.ref o1), .val (.int (0 : Int32)), .val (.int (Int32.ofNat cs.length)), .val .null, .val (.ref r_328)] [(.ref r_328), (.ref o0)])) rfl rfl (hb hby d2_54)
    have z342 := W341.size
    have N341 := Fr.snoc X341 N336 (by omega : n0 ≤ o0)
    have KC343 : Keep h0 h341 [o0] := KC338.wr W341 (Or.inl (List.mem_of_getElem? (i := 0) rfl))
    have Fw341 := Fc340.same W341
    have z344 := congrArg Array.size e341
    obtain ⟨fs, hr, hrun, hended, rE1, rE2, rE3, rE4⟩ := leaveW (s := s) (vm₁ := s.vm) X341 hS0 (by omega : h0.size ≤ T341.heap.size) (v := none) (fun _ => rfl)
    have Fc345 := (Fc339.wr W341)
    have Fc346 := (Fw336.other W341 (Or.inr (slot_ne (Or.inr (hw _ (List.mem_of_getElem? (i := 18) rfl))) (Or.inr (hw _ (List.mem_of_getElem? (i := 17) rfl))) (by decide) (t := .byte) (t' := (.array .byte)) (by decide) (by decide))))
    have Fc347 := ((P328_0.other W336 (by omega : @Ne Nat r_328 o0)).other W341 (by omega : @Ne Nat r_328 o0))
    refine ⟨_, _, pre301 _ ?_, hrun, hended, _, _, rfl, ?_, rE1, rE2, rE3, rE4.mono (by decide) (by decide)⟩
    · show Steps p.tables e below (T300.setTop (mkF m 5 #[.val (.ref o0), .val (.ref o1), .val (.int (0 : Int32)), .val (.int (Int32.ofNat cs.length)), .val .null, .unset] [(.int (Int32.ofNat cs.length))])) _
      refine XS.ifYes X300.here hx rfl (pc0 := 5) (pc' := 27) rfl (hb hby d2_5) rfl ((if0 _ _).trans (feq (hc302 : ¬ ((Int32.ofNat cs.length) = (0 : Int32)))).2) (by decide) (by decide) ?_
      show Steps p.tables e below (T300.setTop (mkF m 27 #[.val (.ref o0), .val (.ref o1), .val (.int (0 : Int32)), .val (.int (Int32.ofNat cs.length)), .val .null, .unset] [])) _
      refine st327 _ ?_
      show Steps p.tables e below (T327.setTop (mkF m 30 #[.val (.ref o0), .val (.ref o1), .val (.int (0 : Int32)), .val (.int (Int32.ofNat cs.length)), .val .null, .unset] [(.int G1)])) _
      refine XS.ifNo X327.here hx rfl (hb hby d2_30) rfl ((if0 _ _).trans (feq (hG1 : ¬ (G1 = (0 : Int32)))).1) ?_
      show Steps p.tables e below (T327.setTop (mkF m 33 #[.val (.ref o0), .val (.ref o1), .val (.int (0 : Int32)), .val (.int (Int32.ofNat cs.length)), .val .null, .unset] [])) _
      refine XS.aloadN X327.here hx rfl (hb hby d2_33) rfl rfl ?_
      show Steps p.tables e below (T327.setTop (mkF m 34 #[.val (.ref o0), .val (.ref o1), .val (.int (0 : Int32)), .val (.int (Int32.ofNat cs.length)), .val .null, .unset] [(.ref o1)])) _
      refine XS.iloadN X327.here hx rfl (hb hby d2_34) rfl ?_
      show Steps p.tables e below (T327.setTop (mkF m 35 #[.val (.ref o0), .val (.ref o1), .val (.int (0 : Int32)), .val (.int (Int32.ofNat cs.length)), .val .null, .unset] [(.int (0 : Int32)), (.ref o1)])) _
      refine XS.iloadN X327.here hx rfl (hb hby d2_35) rfl ?_
      show Steps p.tables e below (T327.setTop (mkF m 36 #[.val (.ref o0), .val (.ref o1), .val (.int (0 : Int32)), .val (.int (Int32.ofNat cs.length)), .val .null, .unset] [(.int (Int32.ofNat cs.length)), (.int (0 : Int32)), (.ref o1)])) _
      refine st328 _ ?_
      show Steps p.tables e below (T328.setTop (mkF m 39 #[.val (.ref o0), .val (.ref o1), .val (.int (0 : Int32)), .val (.int (Int32.ofNat cs.length)), .val .null, .unset] [(.ref r_328)])) _
      refine XS.astore X328.here hx rfl (hb hby d2_39) rfl rfl (l' := #[.val (.ref o0), .val (.ref o1), .val (.int (0 : Int32)), .val (.int (Int32.ofNat cs.length)), .val .null, .val (.ref r_328)]) rfl ?_
      show Steps p.tables e below (T328.setTop (mkF m 41 #[.val (.ref o0), .val (.ref o1), .val (.int (0 : Int32)), .val (.int (Int32.ofNat cs.length)), .val .null, .val (.ref r_328)] [])) _
      refine XS.aloadN X328.here hx rfl (hb hby d2_41) rfl rfl ?_
      show Steps p.tables e below (T328.setTop (mkF m 42 #[.val (.ref o0), .val (.ref o1), .val (.int (0 : Int32)), .val (.int (Int32.ofNat cs.length)), .val .null, .val (.ref r_328)] [(.ref o0)])) _
      refine XS.aload X328.here hx rfl (hb hby d2_42) rfl rfl ?_
      show Steps p.tables e below (T328.setTop (mkF m 44 #[.val (.ref o0), .val (.ref o1), .val (.int (0 : Int32)), .val (.int (Int32.ofNat cs.length)), .val .null, .val (.ref r_328)] [(.ref r_328), (.ref o0)])) _
      refine XS.iloadN X328.here hx rfl (hb hby d2_44) rfl ?_
      show Steps p.tables e below (T328.setTop (mkF m 45 #[.val (.ref o0), .val (.ref o1), .val (.int (0 : Int32)), .val (.int (Int32.ofNat cs.length)), .val .null, .val (.ref r_328)] [(.int (Int32.ofNat cs.length)), (.ref r_328), (.ref o0)])) _
      refine st333 _ ?_
      show Steps p.tables e below (T333.setTop (mkF m 48 #[.val (.ref o0), .val (.ref o1), .val (.int (0 : Int32)), .val (.int (Int32.ofNat cs.length)), .val .null, .val (.ref r_328)] [(.int z_328), (.ref o0)])) _
      refine st336 _ ?_
      show Steps p.tables e below (T336.setTop (mkF m 51 #[.val (.ref o0), .val (.ref o1), .val (.int (0 : Int32)), .val (.int (Int32.ofNat cs.length)), .val .null, .val (.ref r_328)] [])) _
      refine XS.aloadN X336.here hx rfl (hb hby d2_51) rfl rfl ?_
      show Steps p.tables e below (T336.setTop (mkF m 52 #[.val (.ref o0), .val (.ref o1), .val (.int (0 : Int32)), .val (.int (Int32.ofNat cs.length)), .val .null, .val (.ref r_328)] [(.ref o0)])) _
      refine XS.aload X336.here hx rfl (hb hby d2_52) rfl rfl ?_
      show Steps p.tables e below (T336.setTop (mkF m 54 #[.val (.ref o0), .val (.ref o1), .val (.int (0 : Int32)), .val (.int (Int32.ofNat cs.length)), .val .null, .val (.ref r_328)] [(.ref r_328), (.ref o0)])) _
      refine st341 _ ?_
      show Steps p.tables e below (T341.setTop (mkF m 57 #[.val (.ref o0), .val (.ref o1), .val (.int (0 : Int32)), .val (.int (Int32.ofNat cs.length)), .val .null, .val (.ref r_328)] [])) _
      exact X341.returnOut hx Bd.returns (hb hby d2_57) hr
    · show QrmN4 Z o0 o1 G1 kc cs h0 n0 _ T341.heap _
      rw [e341]
      exact ⟨r_328, kb_328, z_328, M_328, bs_328, rfl, N341, KC343, Fc345, Fw341, Fc346, Fc347, (by first | omega | decide | assumption : own_cod cs z_328 M_328 bs_328)⟩
theorem d1_0 : decode jdk_42_method_3_code 0 = .ok (.aload_n 0, 1) := by decide +kernel
theorem d1_1 : decode jdk_42_method_3_code 1 = .ok (.aload_n 1, 1) := by decide +kernel
theorem d1_2 : decode jdk_42_method_3_code 2 = .ok (.iconst 0, 1) := by decide +kernel
theorem d1_3 : decode jdk_42_method_3_code 3 = .ok (.aload_n 1, 1) := by decide +kernel
theorem d1_4 : decode jdk_42_method_3_code 4 = .ok (.arraylength, 1) := by decide +kernel
theorem d1_5 : decode jdk_42_method_3_code 5 = .ok (.aconst_null, 1) := by decide +kernel
theorem d1_6 : decode jdk_42_method_3_code 6 = .ok (.invokespecial 27, 3) := by decide +kernel
theorem pd_16 : parseMethodDescriptor "([CIILjava/lang/Void;)V" = some ⟨[(.array .char), .int, .int, (.object "java/lang/Void")], none⟩ := by decide +kernel
theorem d1_9 : decode jdk_42_method_3_code 9 = .ok (.return_, 1) := by decide +kernel
theorem ef_rmN1 (m : MethodId) (o0 : Addr) (o1 : Addr) : entryFrame m #[(.ref o0), (.ref o1)] 2 = mkF m 0 #[.val (.ref o0), .val (.ref o1)] [] := by first | (simp [entryFrame, mkF, argsToLocals, Value.category]; done) | rfl
def QrmN1 (Z : State) (o0 : Addr) (o1 : Addr) (G1 : Int32) (kc : ClassId) (cs : List Int32) (h0 : Heap) (n0 : Nat) (v : Option Value) (h : Heap) (L : List Loc) : Prop := ∃ bv : Addr, ∃ kb : ClassId, ∃ z : Int32, ∃ M : Nat, ∃ bs : List Value, v = none ∧ Fr n0 L ∧ Keep h0 h [o0] ∧ Exa Z h o0 "java/lang/String" ∧ Fld Z h o0 "java/lang/String" "value" "[B" (.ref bv) ∧ Fld Z h o0 "java/lang/String" "coder" "B" (.int z) ∧ Arv Z h bv kb .byte (Int32.ofNat M) bs (.int (0 : Int32)) ∧ (own_cod cs z M bs)
set_option maxRecDepth 65536 in
set_option maxHeartbeats 40000000 in
theorem rmN1 (l : Launch) (Z : State) (a0 : Array Value) (hw : ∀ d ∈ tables_1, d.before a0 Z = true) (ws : List Jvm.Cond) (o0 : Addr) (o1 : Addr) (G1 : Int32) (kc : ClassId) (cs : List Int32) (h0 : Heap) (n0 : Nat) (Z0 : n0 ≤ h0.size) (H0 : Sta Z h0 "java/lang/StringUTF16" "$assertionsDisabled" "Z" (.int (1 : Int32))) (H1 : Sta Z h0 "java/lang/StringUTF16" "HI_BYTE_SHIFT" "I" (.int (0 : Int32))) (H2 : Sta Z h0 "java/lang/StringUTF16" "LO_BYTE_SHIFT" "I" (.int (8 : Int32))) (H3 : Sta Z h0 "java/lang/String" "COMPACT_STRINGS" "Z" (.int G1)) (hG1 : ¬ (G1 = (0 : Int32))) (X00 : Ext Z.heap h0) (hcw : Jvm.Lit.compactW.before a0 Z = true) (hh7 : Jvm.Lit.constHeld Z "java/lang/String" 7) (H8 : Exa Z h0 o0 "java/lang/String") (H9 : Fld Z h0 o0 "java/lang/String" "value" "[B" .null) (H10 : Fld Z h0 o0 "java/lang/String" "coder" "B" (.int (0 : Int32))) (H11 : Arv Z h0 o1 kc .char (Int32.ofNat cs.length) (cs.map Value.int) (.int (0 : Int32))) (H12 : n0 ≤ o0) (hn : cs.length ≤ 12) (hbd : own_bd cs) :
    MetFree l (⟨"java/lang/String", "<init>", "([C)V"⟩ : MethodName) (head1 (Jvm.Cond.code (⟨"java/lang/String", "<init>", "([C)V"⟩ : MethodName) jdk_42_method_3_code 2 none :: ws) ({ frames := 5, cells := 2, slots := 36, locals := 74 } : Room)) (fun a U => a = #[(.ref o0), (.ref o1)] ∧ Z.Warmed39 U.vm ∧ U.heap = h0 ∧ IB Z U.vm []) (fun _ _ _ _ _ => True) (fun _ U o U' => ∃ v L, o = .returned v ∧ QrmN1 Z o0 o1 G1 kc cs h0 n0 v U'.heap L ∧ ReturnedEndW U o U' L ({ frames := 5, cells := 2, slots := 36, locals := 74 } : Room).cells ({ frames := 5, cells := 2, slots := 36, locals := 74 } : Room).slots) := by
  refine MetFree.of_bodySF (plainFor_of_name pn_5) hisR ?_
  intro p e s m args below meth c s₁ Bd hml0 hP hK
  obtain ⟨rfl, hZ, hh, hI⟩ := hP
  have hx := Bd.exec
  have hby := Bd.bytes
  have hml : c.maxLocals = 2 := hml0
  have hown : s.vm.findClass "java/lang/String" = some m.cls := findClass_of_methodNamed Bd.named
  have hnm := (name_of_methodNamed Bd.named Bd.method).1
  have X0 : Stand p l e ({ frames := 5, cells := 2, slots := 36, locals := 74 } : Room) s m #[(.ref o0), (.ref o1)] below meth c s₁ [] 0 0 := Stand.of_body Bd
  have e0 : s₁.heap = h0 := by rw [← hh, Bd.state]; rfl
  have N0 := Fr.nil n0
  have pre0 : ∀ t, Steps p.tables e below (s₁.setTop (mkF m 0 #[.val (.ref o0), .val (.ref o1)] [])) t → Steps p.tables e below (s₁.setTop (entryFrame m #[(.ref o0), (.ref o1)] 2)) t := fun t k => castTop (ef_rmN1 m o0 o1) k
  have z348 : @LT.lt Nat _ o0 (Array.size h0) := H8.lt
  have z349 : @LT.lt Nat _ o0 (Array.size h0) := H9.lt
  have z350 : @LT.lt Nat _ o0 (Array.size h0) := H10.lt
  have z351 : @LT.lt Nat _ o1 (Array.size h0) := H11.lt
  have KC0 : Keep h0 h0 [o0] := Keep.refl _ _
  have hS0 : s.Since s.vm h0.size := (State.WarmedH.refl s).since _
  obtain ⟨cl352, Ar352, q352, S352, N352', H352, G352⟩ := id H11
  have z354 := congrArg Array.size e0
  obtain ⟨_, _, ⟨T353, L353, k353, n353⟩, -, Y353, hY353, gY353, ⟨Lc353, hQ353, l353, y353, z353⟩, st353⟩ := X0.specialBackS hx (y := (⟨"java/lang/String", "<init>", "([CIILjava/lang/Void;)V"⟩ : MethodName)) rfl hown (mvT hZ (hw _ (List.mem_of_getElem? (i := 8) rfl))) (mvT hZ (hw _ (List.mem_of_getElem? (i := 9) rfl))) (mvT hZ (hw _ (List.mem_of_getElem? (i := 11) rfl))) (by decide) (backOfI (W := 0) (rmN4 l Z a0 hw [] o0 o1 G1 kc cs h0 n0 (by omega) H0 H1 H2 H3 (hG1 : ¬ (G1 = (0 : Int32))) ((by first | decide | omega | assumption) : Ext Z.heap h0) (hcw : Jvm.Lit.compactW.before a0 Z = true) (hh7 : Jvm.Lit.constHeld Z "java/lang/String" 7) H8 H9 H10 H11 (by omega : n0 ≤ o0) (hn : cs.length ≤ 12) (hbd : own_bd cs)) hZ (hw _ (List.mem_of_getElem? (i := 11) rfl)) (hw _ (List.mem_of_getElem? (i := 4) rfl)) (by decide) (by decide)) (g := (mkF m 6 #[.val (.ref o0), .val (.ref o1)] [.null, (.int (Int32.ofNat cs.length)), (.int (0 : Int32)), (.ref o1), (.ref o0)])) rfl (by rw [hml]; rfl) (Steps.refl _) (a := o0) (argsL := [(.ref o1), (.int (0 : Int32)), (.int (Int32.ofNat cs.length)), .null]) (rest := []) (lenOf pd_16 rfl) rfl (by show 2 * 0 + _ ≤ _; exact Nat.le_of_eq rfl) (hb hby d1_6) (fun _ Hw => ⟨rfl, e0, (by decide : 0 + 2 ≤ _), (by decide : 0 + 36 ≤ _), own_IBw hI Hw⟩)
  dsimp only [Pt.U, Pt.locs, Pt.cells, Pt.slots] at Y353 hY353 gY353 l353 y353 z353 st353 hQ353
  subst l353 y353 z353
  obtain ⟨X353, hS353, hZ353, hw353⟩ := rebS (s := s) (vm0 := s.vm) hS0 (by omega : h0.size ≤ s₁.heap.size) Y353 hY353 gY353 hZ hown
  obtain ⟨bv_353, kb_353, z_353, M_353, bs_353, rfl, N353q, K353, P353_0, P353_1, P353_2, P353_3, P353_4⟩ := hQ353
  have N353 := Fr.app N0 N353q
  have z355 := K353.1
  have KC356 : Keep h0 T353.heap [o0] := KC0.trans K353 (allS (Or.inl (List.mem_of_getElem? (i := 0) rfl)) all0)
  have z357 : @LT.lt Nat _ o0 (Array.size T353.heap) := P353_0.lt
  have z358 : @LT.lt Nat _ o0 (Array.size T353.heap) := P353_1.lt
  have z359 : @LT.lt Nat _ o0 (Array.size T353.heap) := P353_2.lt
  have z360 : @LT.lt Nat _ bv_353 (Array.size T353.heap) := P353_3.lt
  obtain ⟨fs, hr, hrun, hended, rE1, rE2, rE3, rE4⟩ := leaveW (s := s) (vm₁ := T353.vm) X353 hS353 (by omega : T353.heap.size ≤ T353.heap.size) (v := none) (fun _ => rfl)
  refine ⟨_, _, pre0 _ ?_, hrun, hended, _, _, rfl, ?_, rE1, rE2, rE3, rE4.mono (by decide) (by decide)⟩
  · show Steps p.tables e below (s₁.setTop (mkF m 0 #[.val (.ref o0), .val (.ref o1)] [])) _
    refine XS.aloadN X0.here hx rfl (hb hby d1_0) rfl rfl ?_
    show Steps p.tables e below (s₁.setTop (mkF m 1 #[.val (.ref o0), .val (.ref o1)] [(.ref o0)])) _
    refine XS.aloadN X0.here hx rfl (hb hby d1_1) rfl rfl ?_
    show Steps p.tables e below (s₁.setTop (mkF m 2 #[.val (.ref o0), .val (.ref o1)] [(.ref o1), (.ref o0)])) _
    refine XS.iconst X0.here hx rfl (hb hby d1_2) ?_
    show Steps p.tables e below (s₁.setTop (mkF m 3 #[.val (.ref o0), .val (.ref o1)] [(.int (0 : Int32)), (.ref o1), (.ref o0)])) _
    refine XS.aloadN X0.here hx rfl (hb hby d1_3) rfl rfl ?_
    show Steps p.tables e below (s₁.setTop (mkF m 4 #[.val (.ref o0), .val (.ref o1)] [(.ref o1), (.int (0 : Int32)), (.ref o1), (.ref o0)])) _
    refine X0.arraylength hx (by rw [e0]; exact Ar352.1) (State.isArrayOf_alike hZ.alike Ar352.2.1) (g := (mkF m 4 #[.val (.ref o0), .val (.ref o1)] [(.ref o1), (.int (0 : Int32)), (.ref o1), (.ref o0)])) rfl rfl (hb hby d1_4) _ ?_
    rw [len_of S352 N352']
    show Steps p.tables e below (s₁.setTop (mkF m 5 #[.val (.ref o0), .val (.ref o1)] [(.int (Int32.ofNat cs.length)), (.int (0 : Int32)), (.ref o1), (.ref o0)])) _
    refine XS.aconstNull X0.here hx rfl (hb hby d1_5) ?_
    show Steps p.tables e below (s₁.setTop (mkF m 6 #[.val (.ref o0), .val (.ref o1)] [.null, (.int (Int32.ofNat cs.length)), (.int (0 : Int32)), (.ref o1), (.ref o0)])) _
    refine st353.trans ?_
    show Steps p.tables e below (T353.setTop (mkF m 9 #[.val (.ref o0), .val (.ref o1)] [])) _
    exact X353.returnOut hx Bd.returns (hb hby d1_9) hr
  · show QrmN1 Z o0 o1 G1 kc cs h0 n0 _ T353.heap _
    exact ⟨bv_353, kb_353, z_353, M_353, bs_353, rfl, N353, KC356, P353_0, P353_1, P353_2, P353_3, (by first | omega | decide | assumption : own_cod cs z_353 M_353 bs_353)⟩
def own_t13 : List Int32 := [65, 66, 67, 68, 69, 70, 71, 72, 73, 74, 75, 76, 77, 78, 79, 80, 81, 82, 83, 84, 85, 86, 87, 88, 89, 90, 97, 98, 99, 100, 101, 102, 103, 104, 105, 106, 107, 108, 109, 110, 111, 112, 113, 114, 115, 116, 117, 118, 119, 120, 121, 122, 48, 49, 50, 51, 52, 53, 54, 55, 56, 57, 46, 95, 58, 45, 65, 66, 67, 68, 69, 70, 71, 72, 73, 74, 75, 76, 77, 78, 79, 80, 81, 82, 83, 84, 85, 86, 87, 88, 89, 90, 97, 98, 99, 100, 101, 102, 103, 104, 105, 106, 107, 108, 109, 110, 111, 112, 113, 114, 115, 116, 117, 118, 119, 120, 121, 122, 48, 49, 50, 51, 52, 53, 54, 55, 56, 57]
set_option maxRecDepth 65536 in
theorem own_t13b : own_t13.map (fun c => Value.int (lo8 c)) = [(.int (65 : Int32)), (.int (66 : Int32)), (.int (67 : Int32)), (.int (68 : Int32)), (.int (69 : Int32)), (.int (70 : Int32)), (.int (71 : Int32)), (.int (72 : Int32)), (.int (73 : Int32)), (.int (74 : Int32)), (.int (75 : Int32)), (.int (76 : Int32)), (.int (77 : Int32)), (.int (78 : Int32)), (.int (79 : Int32)), (.int (80 : Int32)), (.int (81 : Int32)), (.int (82 : Int32)), (.int (83 : Int32)), (.int (84 : Int32)), (.int (85 : Int32)), (.int (86 : Int32)), (.int (87 : Int32)), (.int (88 : Int32)), (.int (89 : Int32)), (.int (90 : Int32)), (.int (97 : Int32)), (.int (98 : Int32)), (.int (99 : Int32)), (.int (100 : Int32)), (.int (101 : Int32)), (.int (102 : Int32)), (.int (103 : Int32)), (.int (104 : Int32)), (.int (105 : Int32)), (.int (106 : Int32)), (.int (107 : Int32)), (.int (108 : Int32)), (.int (109 : Int32)), (.int (110 : Int32)), (.int (111 : Int32)), (.int (112 : Int32)), (.int (113 : Int32)), (.int (114 : Int32)), (.int (115 : Int32)), (.int (116 : Int32)), (.int (117 : Int32)), (.int (118 : Int32)), (.int (119 : Int32)), (.int (120 : Int32)), (.int (121 : Int32)), (.int (122 : Int32)), (.int (48 : Int32)), (.int (49 : Int32)), (.int (50 : Int32)), (.int (51 : Int32)), (.int (52 : Int32)), (.int (53 : Int32)), (.int (54 : Int32)), (.int (55 : Int32)), (.int (56 : Int32)), (.int (57 : Int32)), (.int (46 : Int32)), (.int (95 : Int32)), (.int (58 : Int32)), (.int (45 : Int32)), (.int (65 : Int32)), (.int (66 : Int32)), (.int (67 : Int32)), (.int (68 : Int32)), (.int (69 : Int32)), (.int (70 : Int32)), (.int (71 : Int32)), (.int (72 : Int32)), (.int (73 : Int32)), (.int (74 : Int32)), (.int (75 : Int32)), (.int (76 : Int32)), (.int (77 : Int32)), (.int (78 : Int32)), (.int (79 : Int32)), (.int (80 : Int32)), (.int (81 : Int32)), (.int (82 : Int32)), (.int (83 : Int32)), (.int (84 : Int32)), (.int (85 : Int32)), (.int (86 : Int32)), (.int (87 : Int32)), (.int (88 : Int32)), (.int (89 : Int32)), (.int (90 : Int32)), (.int (97 : Int32)), (.int (98 : Int32)), (.int (99 : Int32)), (.int (100 : Int32)), (.int (101 : Int32)), (.int (102 : Int32)), (.int (103 : Int32)), (.int (104 : Int32)), (.int (105 : Int32)), (.int (106 : Int32)), (.int (107 : Int32)), (.int (108 : Int32)), (.int (109 : Int32)), (.int (110 : Int32)), (.int (111 : Int32)), (.int (112 : Int32)), (.int (113 : Int32)), (.int (114 : Int32)), (.int (115 : Int32)), (.int (116 : Int32)), (.int (117 : Int32)), (.int (118 : Int32)), (.int (119 : Int32)), (.int (120 : Int32)), (.int (121 : Int32)), (.int (122 : Int32)), (.int (48 : Int32)), (.int (49 : Int32)), (.int (50 : Int32)), (.int (51 : Int32)), (.int (52 : Int32)), (.int (53 : Int32)), (.int (54 : Int32)), (.int (55 : Int32)), (.int (56 : Int32)), (.int (57 : Int32))] := by rfl
theorem own_t13l : own_t13.length = 128 := by decide +kernel
theorem own_t13d : own_bd own_t13 := by unfold own_bd; decide +kernel
theorem own_t13x : ∀ c ∈ own_t13, ¬ (255 : Int32) < c := by decide +kernel
theorem own_t13c : own_cod own_t13 0 own_t13.length (own_t13.map (fun c => Value.int (lo8 c))) := Or.inl ⟨rfl, rfl, rfl, own_t13x⟩
def own_t21 : List Int32 := [65, 66, 67, 68, 69, 70, 71, 72, 73, 74, 75, 76, 77, 78, 79, 80, 81, 82, 83, 84, 85, 86, 87, 88, 89, 90, 97, 98, 99, 100, 101, 102, 103, 104, 105, 106, 107, 108, 109, 110, 111, 112, 113, 114, 115, 116, 117, 118, 119, 120, 121, 122, 48, 49, 50, 51, 52, 53, 54, 55, 56, 57, 46, 95, 58, 45, 65, 66, 67, 68, 69, 70, 71, 72, 73, 74, 75, 76, 77, 78, 79, 80, 81, 82, 83, 84, 85, 86, 87, 88, 89, 90, 97, 98, 99, 100, 101, 102, 103, 104, 105, 106, 107, 108, 109, 110, 111, 112, 113, 114, 115, 116, 117, 118, 119, 120, 121, 122, 48, 49, 50, 51, 52, 53, 54, 55, 56, 57, 95]
set_option maxRecDepth 65536 in
theorem own_t21b : own_t21.map (fun c => Value.int (lo8 c)) = [(.int (65 : Int32)), (.int (66 : Int32)), (.int (67 : Int32)), (.int (68 : Int32)), (.int (69 : Int32)), (.int (70 : Int32)), (.int (71 : Int32)), (.int (72 : Int32)), (.int (73 : Int32)), (.int (74 : Int32)), (.int (75 : Int32)), (.int (76 : Int32)), (.int (77 : Int32)), (.int (78 : Int32)), (.int (79 : Int32)), (.int (80 : Int32)), (.int (81 : Int32)), (.int (82 : Int32)), (.int (83 : Int32)), (.int (84 : Int32)), (.int (85 : Int32)), (.int (86 : Int32)), (.int (87 : Int32)), (.int (88 : Int32)), (.int (89 : Int32)), (.int (90 : Int32)), (.int (97 : Int32)), (.int (98 : Int32)), (.int (99 : Int32)), (.int (100 : Int32)), (.int (101 : Int32)), (.int (102 : Int32)), (.int (103 : Int32)), (.int (104 : Int32)), (.int (105 : Int32)), (.int (106 : Int32)), (.int (107 : Int32)), (.int (108 : Int32)), (.int (109 : Int32)), (.int (110 : Int32)), (.int (111 : Int32)), (.int (112 : Int32)), (.int (113 : Int32)), (.int (114 : Int32)), (.int (115 : Int32)), (.int (116 : Int32)), (.int (117 : Int32)), (.int (118 : Int32)), (.int (119 : Int32)), (.int (120 : Int32)), (.int (121 : Int32)), (.int (122 : Int32)), (.int (48 : Int32)), (.int (49 : Int32)), (.int (50 : Int32)), (.int (51 : Int32)), (.int (52 : Int32)), (.int (53 : Int32)), (.int (54 : Int32)), (.int (55 : Int32)), (.int (56 : Int32)), (.int (57 : Int32)), (.int (46 : Int32)), (.int (95 : Int32)), (.int (58 : Int32)), (.int (45 : Int32)), (.int (65 : Int32)), (.int (66 : Int32)), (.int (67 : Int32)), (.int (68 : Int32)), (.int (69 : Int32)), (.int (70 : Int32)), (.int (71 : Int32)), (.int (72 : Int32)), (.int (73 : Int32)), (.int (74 : Int32)), (.int (75 : Int32)), (.int (76 : Int32)), (.int (77 : Int32)), (.int (78 : Int32)), (.int (79 : Int32)), (.int (80 : Int32)), (.int (81 : Int32)), (.int (82 : Int32)), (.int (83 : Int32)), (.int (84 : Int32)), (.int (85 : Int32)), (.int (86 : Int32)), (.int (87 : Int32)), (.int (88 : Int32)), (.int (89 : Int32)), (.int (90 : Int32)), (.int (97 : Int32)), (.int (98 : Int32)), (.int (99 : Int32)), (.int (100 : Int32)), (.int (101 : Int32)), (.int (102 : Int32)), (.int (103 : Int32)), (.int (104 : Int32)), (.int (105 : Int32)), (.int (106 : Int32)), (.int (107 : Int32)), (.int (108 : Int32)), (.int (109 : Int32)), (.int (110 : Int32)), (.int (111 : Int32)), (.int (112 : Int32)), (.int (113 : Int32)), (.int (114 : Int32)), (.int (115 : Int32)), (.int (116 : Int32)), (.int (117 : Int32)), (.int (118 : Int32)), (.int (119 : Int32)), (.int (120 : Int32)), (.int (121 : Int32)), (.int (122 : Int32)), (.int (48 : Int32)), (.int (49 : Int32)), (.int (50 : Int32)), (.int (51 : Int32)), (.int (52 : Int32)), (.int (53 : Int32)), (.int (54 : Int32)), (.int (55 : Int32)), (.int (56 : Int32)), (.int (57 : Int32)), (.int (95 : Int32))] := by rfl
theorem own_t21l : own_t21.length = 129 := by decide +kernel
theorem own_t21d : own_bd own_t21 := by unfold own_bd; decide +kernel
theorem own_t21x : ∀ c ∈ own_t21, ¬ (255 : Int32) < c := by decide +kernel
theorem own_t21c : own_cod own_t21 0 own_t21.length (own_t21.map (fun c => Value.int (lo8 c))) := Or.inl ⟨rfl, rfl, rfl, own_t21x⟩
theorem own_t13v : own_val own_t13 := by decide +kernel
theorem own_t21v : ¬ own_val own_t21 := by decide +kernel
theorem own_mod13 (x : Int32) : ∃ n : Nat, n ≤ 12 ∧ ((x &&& (2147483647 : Int32)) % (13 : Int32)) = Int32.ofNat n := by
  have h0 := (c_and x 2147483647 (by decide)).1
  have h1 := (c_irem (x &&& 2147483647) 13 13 rfl).1 h0
  refine ⟨(((x &&& (2147483647 : Int32)) % (13 : Int32)).toInt).toNat, by omega, own_eqn (by omega) (by omega)⟩
theorem own_cb (x : Int32) : ¬ (nar .char x) < 0 ∧ ¬ (65535 : Int32) < (nar .char x) := by
  have h := c_i2c x
  have e : (nar .char x).toInt = x.toUInt32.toUInt16.toUInt32.toInt32.toInt := rfl
  have e0 : (0 : Int32).toInt = 0 := rfl
  have e2 : (65535 : Int32).toInt = 65535 := rfl
  rw [Int32.lt_iff_toInt_lt, Int32.lt_iff_toInt_lt, e, e0, e2]
  omega
def own_cp (C : List Int32) (n k : Nat) : List Value := (C.take (min k n)).map Value.int ++ List.replicate (n - k) (Value.int (0 : Int32))
theorem own_cp0 (C : List Int32) (n : Nat) : own_cp C n 0 = List.replicate n (Value.int (0 : Int32)) := by simp [own_cp]
theorem own_cpl (C : List Int32) (n k : Nat) (h : n ≤ C.length) : (own_cp C n k).length = n := by
  simp only [own_cp, List.length_append, List.length_map, List.length_take, List.length_replicate]; omega
theorem own_cpe (C : List Int32) (n k : Nat) (h : n ≤ k) : own_cp C n k = own_cp C n (k + 1) := by
  unfold own_cp; rw [Nat.min_eq_right h, Nat.min_eq_right (by omega : n ≤ k + 1), show n - k = 0 from by omega, show n - (k + 1) = 0 from by omega]
theorem own_cps (C : List Int32) (n k : Nat) (h : k < n) (hC : n ≤ C.length) (hb : own_bd C) : List.set (own_cp C n k) k (.int (nar .char (C.getD k 0))) = own_cp C n (k + 1) := by
  have e1 : ((C.take k).map Value.int).length = k := by rw [List.length_map, List.length_take]; omega
  have e2 : List.replicate (n - k) (Value.int (0 : Int32)) = Value.int 0 :: List.replicate (n - (k + 1)) (Value.int (0 : Int32)) := by
    rw [show n - k = (n - (k + 1)) + 1 from by omega]; rfl
  have e5 : nar .char (C.getD k 0) = C.getD k 0 := own_narw _ (own_bdg hb (by omega))
  have e4 : own_cp C n (k + 1) = (C.take k).map Value.int ++ (Value.int (C.getD k 0) :: List.replicate (n - (k + 1)) (Value.int (0 : Int32))) := by
    unfold own_cp; rw [Nat.min_eq_left (by omega : k + 1 ≤ n), own_tk1 C k (by omega), List.map_append, List.append_assoc]; rfl
  rw [e4, e5]
  unfold own_cp
  rw [Nat.min_eq_left (by omega : k ≤ n), e2, List.set_append_right _ _ (by omega), e1, Nat.sub_self]
  rfl
theorem own_cpn (C : List Int32) (n : Nat) (h : n ≤ 12) : own_cp C n 12 = (C.take n).map Value.int := by
  unfold own_cp; rw [Nat.min_eq_right h, show n - 12 = 0 from by omega]; simp
theorem own_tkd (C : List Int32) (n k : Nat) (h : k < n) : (C.take n).getD k 0 = C.getD k 0 := by
  simp [List.getD_eq_getElem?_getD, List.getElem?_take, h]
theorem own_vk {C cs : List Int32} {n : Nat} (g : cs = C.take n) (hn : n ≤ C.length) (v : own_val cs) (k : Nat) (h : k < n) : own_ok (C.getD k 0) := by
  have q := own_get (P := own_ok) v.2.2 (i := k) (by rw [g, List.length_take]; omega)
  rw [g, own_tkd C n k h] at q; exact q
theorem own_v0 {C cs : List Int32} {n : Nat} (g : cs = C.take n) (h : Int32.ofNat n < 1) (hn : n ≤ 12) (v : own_val cs) : False := by
  have q := (own_ltn (b := 1) (by omega) (by decide)).mp h
  exact v.1 (by rw [g, show n = 0 from by omega]; rfl)
theorem own_va {C cs : List Int32} {n : Nat} (g : cs = C.take n) (h : ¬ Int32.ofNat n < 1) (hn : n ≤ 12) (hC : C.length = 12) (q : ∀ k, k < 12 → k < n → own_ok (C.getD k 0)) : own_val cs := by
  have q1 : ¬ (n < 1) := fun k => h ((own_ltn (b := 1) (by omega) (by decide)).mpr k)
  have e : cs.length = n := by rw [g, List.length_take]; omega
  refine ⟨fun k => by rw [k] at e; simp at e; omega, by omega, own_mem (fun i hi => ?_)⟩
  rw [g, own_tkd C n i (by omega)]; exact q i (by omega) (by omega)
theorem pd_17 : parseMethodDescriptor "(Ljava/lang/String;)Z" = some ⟨[(.object "java/lang/String")], some .boolean⟩ := by decide +kernel
theorem pd_18 : parseMethodDescriptor "([CII)Z" = some ⟨[(.array .char), .int, .int], some .boolean⟩ := by decide +kernel
theorem pd_19 : parseMethodDescriptor "([C)V" = some ⟨[(.array .char)], none⟩ := by decide +kernel
theorem ef_rm0 (m : MethodId) (p0 : Int32) (q1 : Int64) (q2 : Int64) (q3 : Int64) : entryFrame m #[(.int p0), (.long q1), (.long q2), (.long q3)] maxLocals = mkF m 0 #[.val (.int p0), .val (.long q1), .second, .val (.long q2), .second, .val (.long q3), .second, .unset, .unset, .unset, .unset, .unset] [] := by first | (simp [entryFrame, mkF, argsToLocals, Value.category, maxLocals]; done) | rfl
def Qrm0 (Z : State) (p0 : Int32) (q1 : Int64) (q2 : Int64) (q3 : Int64) (G1 : Int32) (fm : Value) (h0 : Heap) (n0 : Nat) (v : Option Value) (h : Heap) (L : List Loc) : Prop := v = some (.int (1 : Int32)) ∧ Fr n0 L ∧ Keep h0 h []
set_option maxRecDepth 65536 in
set_option maxHeartbeats 40000000 in
theorem rm0 (l : Launch) (Z : State) (a0 : Array Value) (hw : ∀ d ∈ tables_1, d.before a0 Z = true) (ws : List Jvm.Cond) (p0 : Int32) (q1 : Int64) (q2 : Int64) (q3 : Int64) (G1 : Int32) (fm : Value) (h0 : Heap) (n0 : Nat) (Z0 : n0 ≤ h0.size) (H0 : Sta Z h0 "java/lang/StringUTF16" "$assertionsDisabled" "Z" (.int (1 : Int32))) (H1 : Sta Z h0 "java/lang/StringUTF16" "HI_BYTE_SHIFT" "I" (.int (0 : Int32))) (H2 : Sta Z h0 "java/lang/StringUTF16" "LO_BYTE_SHIFT" "I" (.int (8 : Int32))) (H3 : Sta Z h0 "java/lang/String" "COMPACT_STRINGS" "Z" (.int G1)) (hG1 : ¬ (G1 = (0 : Int32))) (H5 : Sta Z h0 "jdk/internal/util/Preconditions" "SIOOBE_FORMATTER" "Ljava/util/function/BiFunction;" fm) (rf : fm.isRef = true) (X00 : Ext Z.heap h0) (hcw : Jvm.Lit.compactW.before a0 Z = true) (hh7 : Jvm.Lit.constHeld Z "java/lang/String" 7) (hh13 : Jvm.Lit.constHeld Z "com/example/delay_buckets/delaybuckets/NamesIsValidPinLaw" 13) (hh21 : Jvm.Lit.constHeld Z "com/example/delay_buckets/delaybuckets/NamesIsValidPinLaw" 21) :
    MetFree l x (head1 (Jvm.Cond.code x code maxLocals ret :: ws) room_1) (fun a U => a = #[(.int p0), (.long q1), (.long q2), (.long q3)] ∧ Z.Warmed39 U.vm ∧ U.heap = h0 ∧ IB Z U.vm []) (fun _ _ _ _ _ => True) (fun _ U o U' => ∃ v L, o = .returned v ∧ Qrm0 Z p0 q1 q2 q3 G1 fm h0 n0 v U'.heap L ∧ ReturnedEndW U o U' L room_1.cells room_1.slots) := by
  refine MetFree.of_bodySF (plainFor_of_name pn_15) hisR ?_
  intro p e s m args below meth c s₁ Bd hml0 hP hK
  obtain ⟨rfl, hZ, hh, hI⟩ := hP
  have hx := Bd.exec
  have hby := Bd.bytes
  have hml : c.maxLocals = 12 := hml0
  have hown : s.vm.findClass "com/example/delay_buckets/delaybuckets/NamesIsValidPinLaw" = some m.cls := findClass_of_methodNamed Bd.named
  have hnm := (name_of_methodNamed Bd.named Bd.method).1
  have X0 : Stand p l e room_1 s m #[(.int p0), (.long q1), (.long q2), (.long q3)] below meth c s₁ [] 0 0 := Stand.of_body Bd
  have e0 : s₁.heap = h0 := by rw [← hh, Bd.state]; rfl
  have N0 := Fr.nil h0.size
  have pre0 : ∀ t, Steps p.tables e below (s₁.setTop (mkF m 0 #[.val (.int p0), .val (.long q1), .second, .val (.long q2), .second, .val (.long q3), .second, .unset, .unset, .unset, .unset, .unset] [])) t → Steps p.tables e below (s₁.setTop (entryFrame m #[(.int p0), (.long q1), (.long q2), (.long q3)] maxLocals)) t := fun t k => castTop (ef_rm0 m p0 q1 q2 q3) k
  have KC0 : Keep h0 h0 [] := Keep.refl _ _
  have hS0 : s.Since s.vm h0.size := (State.WarmedH.refl s).since _
  have pre361 : ∀ t, Steps p.tables e below (s₁.setTop (mkF m 9 #[.val (.int p0), .val (.long q1), .second, .val (.long q2), .second, .val (.long q3), .second, .val (.int (p0 &&& (7 : Int32))), .unset, .unset, .unset, .unset] [(.int (5 : Int32)), (.int (p0 &&& (7 : Int32)))])) t → Steps p.tables e below (s₁.setTop (entryFrame m #[(.int p0), (.long q1), (.long q2), (.long q3)] maxLocals)) t := fun t k => by
    refine pre0 _ ?_
    show Steps p.tables e below (s₁.setTop (mkF m 0 #[.val (.int p0), .val (.long q1), .second, .val (.long q2), .second, .val (.long q3), .second, .unset, .unset, .unset, .unset, .unset] [])) _
    refine XS.iloadN X0.here hx rfl (hb hby at_0) rfl ?_
    show Steps p.tables e below (s₁.setTop (mkF m 1 #[.val (.int p0), .val (.long q1), .second, .val (.long q2), .second, .val (.long q3), .second, .unset, .unset, .unset, .unset, .unset] [(.int p0)])) _
    refine XS.bipush X0.here hx rfl (hb hby at_1) ?_
    show Steps p.tables e below (s₁.setTop (mkF m 3 #[.val (.int p0), .val (.long q1), .second, .val (.long q2), .second, .val (.long q3), .second, .unset, .unset, .unset, .unset, .unset] [(.int (7 : Int32)), (.int p0)])) _
    refine XS.iand X0.here hx rfl (hb hby at_3) rfl ?_
    show Steps p.tables e below (s₁.setTop (mkF m 4 #[.val (.int p0), .val (.long q1), .second, .val (.long q2), .second, .val (.long q3), .second, .unset, .unset, .unset, .unset, .unset] [(.int (p0 &&& (7 : Int32)))])) _
    refine XS.istore X0.here hx rfl (hb hby at_4) rfl (l' := #[.val (.int p0), .val (.long q1), .second, .val (.long q2), .second, .val (.long q3), .second, .val (.int (p0 &&& (7 : Int32))), .unset, .unset, .unset, .unset]) rfl ?_
    show Steps p.tables e below (s₁.setTop (mkF m 6 #[.val (.int p0), .val (.long q1), .second, .val (.long q2), .second, .val (.long q3), .second, .val (.int (p0 &&& (7 : Int32))), .unset, .unset, .unset, .unset] [])) _
    refine XS.iload X0.here hx rfl (hb hby at_6) rfl ?_
    show Steps p.tables e below (s₁.setTop (mkF m 8 #[.val (.int p0), .val (.long q1), .second, .val (.long q2), .second, .val (.long q3), .second, .val (.int (p0 &&& (7 : Int32))), .unset, .unset, .unset, .unset] [(.int (p0 &&& (7 : Int32)))])) _
    refine XS.iconst X0.here hx rfl (hb hby at_8) ?_
    exact k
  by_cases hc362 : (p0 &&& (7 : Int32)) = (5 : Int32)
  · obtain ⟨_, _, ⟨T363, L363, k363, n363⟩, -, X363, ⟨Lc363, hQ363, l363, y363, z363⟩, st363⟩ := Jvm.LawKit.callS X0 hx (y := (⟨"com/example/delay_buckets/delaybuckets/Names", "isValid", "(Ljava/lang/String;)Z"⟩ : MethodName)) hown (mvT hZ (hw _ (List.mem_of_getElem? (i := 23) rfl))) (mvT hZ (hw _ (List.mem_of_getElem? (i := 24) rfl))) (mvT hZ (hw _ (List.mem_of_getElem? (i := 25) rfl))) (mvT hZ (hw _ (List.mem_of_getElem? (i := 26) rfl))) (by decide) (backOf (W := 0) (rmIv0 l Z a0 hw [] h0 h0.size (by omega)) hZ (hw _ (List.mem_of_getElem? (i := 26) rfl)) (hw _ (List.mem_of_getElem? (i := 25) rfl)) (by decide) (by decide)) (g := (mkF m 13 #[.val (.int p0), .val (.long q1), .second, .val (.long q2), .second, .val (.long q3), .second, .val (.int (p0 &&& (7 : Int32))), .unset, .unset, .unset, .unset] [.null])) rfl (by rw [hml]; rfl) (argsL := [.null]) (rest := []) (lenOf pd_17 rfl) rfl (by show 2 * 0 + _ ≤ _; exact Nat.le_of_eq rfl) (hb hby at_13) (fun _ _ => ⟨rfl, e0, (by decide : 0 + 0 ≤ _), (by decide : 0 + 0 ≤ _)⟩)
    dsimp only [Pt.U, Pt.locs, Pt.cells, Pt.slots] at X363 l363 y363 z363 st363 hQ363
    subst l363 y363 z363
    obtain ⟨rfl, N363q, e363⟩ := hQ363
    have N363 := Fr.app N0 N363q
    have z364 := congrArg Array.size e363
    obtain ⟨fs, hr, hrun, hended, rE1, rE2, rE3, rE4⟩ := leaveW (s := s) (vm₁ := s.vm) X363 hS0 (by omega : h0.size ≤ T363.heap.size) (v := some (.int (1 : Int32))) (fun h => by rw [Bd.returns] at h; cases h)
    refine ⟨_, _, pre361 _ ?_, hrun, hended, _, _, rfl, ?_, rE1, rE2, rE3, rE4.mono (by decide) (by decide)⟩
    · show Steps p.tables e below (s₁.setTop (mkF m 9 #[.val (.int p0), .val (.long q1), .second, .val (.long q2), .second, .val (.long q3), .second, .val (.int (p0 &&& (7 : Int32))), .unset, .unset, .unset, .unset] [(.int (5 : Int32)), (.int (p0 &&& (7 : Int32)))])) _
      refine XS.icmpNo X0.here hx rfl (hb hby at_9) rfl (teq (hc362 : (p0 &&& (7 : Int32)) = (5 : Int32))).2 ?_
      show Steps p.tables e below (s₁.setTop (mkF m 12 #[.val (.int p0), .val (.long q1), .second, .val (.long q2), .second, .val (.long q3), .second, .val (.int (p0 &&& (7 : Int32))), .unset, .unset, .unset, .unset] [])) _
      refine XS.aconstNull X0.here hx rfl (hb hby at_12) ?_
      show Steps p.tables e below (s₁.setTop (mkF m 13 #[.val (.int p0), .val (.long q1), .second, .val (.long q2), .second, .val (.long q3), .second, .val (.int (p0 &&& (7 : Int32))), .unset, .unset, .unset, .unset] [.null])) _
      refine st363 _ ?_
      show Steps p.tables e below (T363.setTop (mkF m 16 #[.val (.int p0), .val (.long q1), .second, .val (.long q2), .second, .val (.long q3), .second, .val (.int (p0 &&& (7 : Int32))), .unset, .unset, .unset, .unset] [(.int (0 : Int32))])) _
      refine XS.ifNo X363.here hx rfl (hb hby at_16) rfl ((if0 _ _).trans (teq (by decide : (0 : Int32) = (0 : Int32))).2) ?_
      show Steps p.tables e below (T363.setTop (mkF m 19 #[.val (.int p0), .val (.long q1), .second, .val (.long q2), .second, .val (.long q3), .second, .val (.int (p0 &&& (7 : Int32))), .unset, .unset, .unset, .unset] [])) _
      refine XS.iconst X363.here hx rfl (hb hby at_19) ?_
      show Steps p.tables e below (T363.setTop (mkF m 20 #[.val (.int p0), .val (.long q1), .second, .val (.long q2), .second, .val (.long q3), .second, .val (.int (p0 &&& (7 : Int32))), .unset, .unset, .unset, .unset] [(.int (1 : Int32))])) _
      refine XS.goto X363.here hx rfl (pc0 := 20) (pc' := 24) rfl (hb hby at_20) (by decide) (by decide) ?_
      show Steps p.tables e below (T363.setTop (mkF m 24 #[.val (.int p0), .val (.long q1), .second, .val (.long q2), .second, .val (.long q3), .second, .val (.int (p0 &&& (7 : Int32))), .unset, .unset, .unset, .unset] [(.int (1 : Int32))])) _
      exact retN X363 hx (t := .boolean) Bd.returns (by simp) (hb hby at_24) hr
    · show Qrm0 Z p0 q1 q2 q3 G1 fm h0 n0 _ T363.heap _
      rw [e363]
      exact ⟨rfl, (fun y hy => Nat.le_trans Z0 (N363 y hy)), KC0⟩
  · have pre365 : ∀ t, Steps p.tables e below (s₁.setTop (mkF m 29 #[.val (.int p0), .val (.long q1), .second, .val (.long q2), .second, .val (.long q3), .second, .val (.int (p0 &&& (7 : Int32))), .unset, .unset, .unset, .unset] [(.int (6 : Int32)), (.int (p0 &&& (7 : Int32)))])) t → Steps p.tables e below (s₁.setTop (entryFrame m #[(.int p0), (.long q1), (.long q2), (.long q3)] maxLocals)) t := fun t k => by
      refine pre361 _ ?_
      show Steps p.tables e below (s₁.setTop (mkF m 9 #[.val (.int p0), .val (.long q1), .second, .val (.long q2), .second, .val (.long q3), .second, .val (.int (p0 &&& (7 : Int32))), .unset, .unset, .unset, .unset] [(.int (5 : Int32)), (.int (p0 &&& (7 : Int32)))])) _
      refine XS.icmpYes X0.here hx rfl (pc0 := 9) (pc' := 25) rfl (hb hby at_9) rfl (feq (hc362 : ¬ ((p0 &&& (7 : Int32)) = (5 : Int32)))).2 (by decide) (by decide) ?_
      show Steps p.tables e below (s₁.setTop (mkF m 25 #[.val (.int p0), .val (.long q1), .second, .val (.long q2), .second, .val (.long q3), .second, .val (.int (p0 &&& (7 : Int32))), .unset, .unset, .unset, .unset] [])) _
      refine XS.iload X0.here hx rfl (hb hby at_25) rfl ?_
      show Steps p.tables e below (s₁.setTop (mkF m 27 #[.val (.int p0), .val (.long q1), .second, .val (.long q2), .second, .val (.long q3), .second, .val (.int (p0 &&& (7 : Int32))), .unset, .unset, .unset, .unset] [(.int (p0 &&& (7 : Int32)))])) _
      refine XS.bipush X0.here hx rfl (hb hby at_27) ?_
      exact k
    by_cases hc366 : (p0 &&& (7 : Int32)) = (6 : Int32)
    · obtain ⟨a367, T367, h367, k367, bv367, kb367, X367, e367, E367, hS367, z367k, hZ367, hw367, PE367, PC367, PV367, PA367, z367a, z367b, hI367, Lt367, st367⟩ := ldcSVL (s := s) (vm0 := s.vm) X0 hx hZ hown (hw _ (List.mem_of_getElem? (i := 45) rfl)) (fun d hd => hw d (own_sa d hd)) e0 hS0 (by omega) (by rw [hh]; exact N0) (fun b cl q => by rw [hh]; exact X00.2 b cl q) hI (by decide) hh13 hcw (vs := [(.int (65 : Int32)), (.int (66 : Int32)), (.int (67 : Int32)), (.int (68 : Int32)), (.int (69 : Int32)), (.int (70 : Int32)), (.int (71 : Int32)), (.int (72 : Int32)), (.int (73 : Int32)), (.int (74 : Int32)), (.int (75 : Int32)), (.int (76 : Int32)), (.int (77 : Int32)), (.int (78 : Int32)), (.int (79 : Int32)), (.int (80 : Int32)), (.int (81 : Int32)), (.int (82 : Int32)), (.int (83 : Int32)), (.int (84 : Int32)), (.int (85 : Int32)), (.int (86 : Int32)), (.int (87 : Int32)), (.int (88 : Int32)), (.int (89 : Int32)), (.int (90 : Int32)), (.int (97 : Int32)), (.int (98 : Int32)), (.int (99 : Int32)), (.int (100 : Int32)), (.int (101 : Int32)), (.int (102 : Int32)), (.int (103 : Int32)), (.int (104 : Int32)), (.int (105 : Int32)), (.int (106 : Int32)), (.int (107 : Int32)), (.int (108 : Int32)), (.int (109 : Int32)), (.int (110 : Int32)), (.int (111 : Int32)), (.int (112 : Int32)), (.int (113 : Int32)), (.int (114 : Int32)), (.int (115 : Int32)), (.int (116 : Int32)), (.int (117 : Int32)), (.int (118 : Int32)), (.int (119 : Int32)), (.int (120 : Int32)), (.int (121 : Int32)), (.int (122 : Int32)), (.int (48 : Int32)), (.int (49 : Int32)), (.int (50 : Int32)), (.int (51 : Int32)), (.int (52 : Int32)), (.int (53 : Int32)), (.int (54 : Int32)), (.int (55 : Int32)), (.int (56 : Int32)), (.int (57 : Int32)), (.int (46 : Int32)), (.int (95 : Int32)), (.int (58 : Int32)), (.int (45 : Int32)), (.int (65 : Int32)), (.int (66 : Int32)), (.int (67 : Int32)), (.int (68 : Int32)), (.int (69 : Int32)), (.int (70 : Int32)), (.int (71 : Int32)), (.int (72 : Int32)), (.int (73 : Int32)), (.int (74 : Int32)), (.int (75 : Int32)), (.int (76 : Int32)), (.int (77 : Int32)), (.int (78 : Int32)), (.int (79 : Int32)), (.int (80 : Int32)), (.int (81 : Int32)), (.int (82 : Int32)), (.int (83 : Int32)), (.int (84 : Int32)), (.int (85 : Int32)), (.int (86 : Int32)), (.int (87 : Int32)), (.int (88 : Int32)), (.int (89 : Int32)), (.int (90 : Int32)), (.int (97 : Int32)), (.int (98 : Int32)), (.int (99 : Int32)), (.int (100 : Int32)), (.int (101 : Int32)), (.int (102 : Int32)), (.int (103 : Int32)), (.int (104 : Int32)), (.int (105 : Int32)), (.int (106 : Int32)), (.int (107 : Int32)), (.int (108 : Int32)), (.int (109 : Int32)), (.int (110 : Int32)), (.int (111 : Int32)), (.int (112 : Int32)), (.int (113 : Int32)), (.int (114 : Int32)), (.int (115 : Int32)), (.int (116 : Int32)), (.int (117 : Int32)), (.int (118 : Int32)), (.int (119 : Int32)), (.int (120 : Int32)), (.int (121 : Int32)), (.int (122 : Int32)), (.int (48 : Int32)), (.int (49 : Int32)), (.int (50 : Int32)), (.int (51 : Int32)), (.int (52 : Int32)), (.int (53 : Int32)), (.int (54 : Int32)), (.int (55 : Int32)), (.int (56 : Int32)), (.int (57 : Int32))]) (z := (128 : Int32)) ⟨by decide, rfl⟩ (by decide) rfl (g := (mkF m 32 #[.val (.int p0), .val (.long q1), .second, .val (.long q2), .second, .val (.long q3), .second, .val (.int (p0 &&& (7 : Int32))), .unset, .unset, .unset, .unset] [])) rfl (hb hby at_32) (n := 512) (by decide) (by decide) (by decide) (by decide)
      have z368 := E367.1
      have KC369 : Keep h0 h367 [] := KC0.ext E367
      have z370 : @LT.lt Nat _ a367 (Array.size h367) := PE367.lt
      have z371 : @LT.lt Nat _ bv367 (Array.size h367) := PA367.lt
      have Vt13 : Arv Z h367 bv367 kb367 .byte (Int32.ofNat own_t13.length) (own_t13.map (fun c => Value.int (lo8 c))) (.int (0 : Int32)) := by rw [own_t13b, own_t13l]; exact PA367
      have Fc372 := (H3.ext E367)
      obtain ⟨cq373, kq373, qa373, qb373, qc373⟩ := isOf hZ367 e367 PE367
      obtain ⟨_, _, ⟨T373, L373, k373, n373⟩, -, X373, ⟨Lc373, hQ373, l373, y373, z373⟩, st373⟩ := X367.virtualBack hx (y := (⟨"java/lang/String", "length", "()I"⟩ : MethodName)) (z := (⟨"java/lang/String", "length", "()I"⟩ : MethodName)) hw367 (mvT hZ367 (hw _ (List.mem_of_getElem? (i := 33) rfl))) (mvT hZ367 (hw _ (List.mem_of_getElem? (i := 34) rfl))) (notFace_of_selects (args := #[]) (mvT hZ367 (hw _ (List.mem_of_getElem? (i := 36) rfl)))) (mvT hZ367 (hw _ (List.mem_of_getElem? (i := 36) rfl))) (mvT hZ367 (hw _ (List.mem_of_getElem? (i := 35) rfl))) (by decide) (backOf (W := 0) (rmLen l Z a0 hw [] a367 G1 own_t13 bv367 kb367 (0 : Int32) own_t13.length (own_t13.map (fun c => Value.int (lo8 c))) h367 h0.size (by omega) Fc372 (hG1 : ¬ (G1 = (0 : Int32))) PE367 PV367 PC367 Vt13 (own_t13c : own_cod own_t13 (0 : Int32) own_t13.length (own_t13.map (fun c => Value.int (lo8 c)))) ((by rw [own_t13l]; decide) : own_t13.length ≤ 1000) (own_t13d : own_bd own_t13)) hZ367 (hw _ (List.mem_of_getElem? (i := 37) rfl)) (hw _ (List.mem_of_getElem? (i := 4) rfl)) (by decide) (by decide)) qa373 qc373 (g := (mkF m 38 #[.val (.int p0), .val (.long q1), .second, .val (.long q2), .second, .val (.long q3), .second, .val (.int (p0 &&& (7 : Int32))), .val (.ref a367), .unset, .unset, .unset] [(.ref a367)])) rfl (by rw [hml]; rfl) (Steps.refl _) (argsL := []) (rest := []) (lenOf pd_13 rfl) rfl (by show 2 * 0 + _ ≤ _; exact Nat.le_of_eq rfl) (hb hby at_38) (fun _ _ => ⟨rfl, e367, (by decide : 2 + 0 ≤ _), (by decide : 516 + 0 ≤ _)⟩)
      dsimp only [Pt.U, Pt.locs, Pt.cells, Pt.slots] at X373 l373 y373 z373 st373 hQ373
      subst l373 y373 z373
      obtain ⟨rfl, N373q, e373⟩ := hQ373
      have N373 := Fr.app N0 N373q
      have Fc374 := (H0.ext E367)
      have Fc375 := (H1.ext E367)
      have Fc376 := (H2.ext E367)
      have Fc377 := (H5.ext E367)
      obtain ⟨_, _, ⟨T378, L378, k378, n378⟩, -, X378, ⟨Lc378, hQ378, l378, y378, z378⟩, st378⟩ := Jvm.LawKit.callS X373 hx (y := (⟨"com/example/delay_buckets/delaybuckets/Names", "isValid", "(Ljava/lang/String;)Z"⟩ : MethodName)) hw367 (mvT hZ367 (hw _ (List.mem_of_getElem? (i := 23) rfl))) (mvT hZ367 (hw _ (List.mem_of_getElem? (i := 24) rfl))) (mvT hZ367 (hw _ (List.mem_of_getElem? (i := 25) rfl))) (mvT hZ367 (hw _ (List.mem_of_getElem? (i := 26) rfl))) (by decide) (backOf (W := 0) (rmIvs l Z a0 hw [] a367 G1 own_t13 bv367 kb367 (0 : Int32) own_t13.length (own_t13.map (fun c => Value.int (lo8 c))) fm h367 h0.size (by omega) Fc374 Fc375 Fc376 Fc372 (hG1 : ¬ (G1 = (0 : Int32))) Fc377 (rf : fm.isRef = true) PE367 PV367 PC367 Vt13 (own_t13c : own_cod own_t13 (0 : Int32) own_t13.length (own_t13.map (fun c => Value.int (lo8 c)))) ((by rw [own_t13l]; decide) : own_t13.length ≤ 1000) (own_t13d : own_bd own_t13)) hZ367 (hw _ (List.mem_of_getElem? (i := 26) rfl)) (hw _ (List.mem_of_getElem? (i := 25) rfl)) (by decide) (by decide)) (g := (mkF m 49 #[.val (.int p0), .val (.long q1), .second, .val (.long q2), .second, .val (.long q3), .second, .val (.int (p0 &&& (7 : Int32))), .val (.ref a367), .unset, .unset, .unset] [(.ref a367)])) rfl (by rw [hml]; rfl) (argsL := [(.ref a367)]) (rest := []) (lenOf pd_17 rfl) rfl (by show 2 * 0 + _ ≤ _; exact Nat.le_of_eq rfl) (hb hby at_49) (fun _ _ => ⟨rfl, e373, (by decide : 2 + 0 ≤ _), (by decide : 516 + 0 ≤ _)⟩)
      dsimp only [Pt.U, Pt.locs, Pt.cells, Pt.slots] at X378 l378 y378 z378 st378 hQ378
      subst l378 y378 z378
      obtain ⟨rfl, N378q, e378⟩ := hQ378
      have N378 := Fr.app N373 N378q
      have z379 := congrArg Array.size e378
      obtain ⟨fs, hr, hrun, hended, rE1, rE2, rE3, rE4⟩ := leaveW (s := s) (vm₁ := T367.vm) X378 hS367 (by omega : k367 ≤ T378.heap.size) (v := some (.int (1 : Int32))) (fun h => by rw [Bd.returns] at h; cases h)
      refine ⟨_, _, pre365 _ ?_, hrun, hended, _, _, rfl, ?_, rE1, rE2, rE3, rE4.mono (by decide) (by decide)⟩
      · show Steps p.tables e below (s₁.setTop (mkF m 29 #[.val (.int p0), .val (.long q1), .second, .val (.long q2), .second, .val (.long q3), .second, .val (.int (p0 &&& (7 : Int32))), .unset, .unset, .unset, .unset] [(.int (6 : Int32)), (.int (p0 &&& (7 : Int32)))])) _
        refine XS.icmpNo X0.here hx rfl (hb hby at_29) rfl (teq (hc366 : (p0 &&& (7 : Int32)) = (6 : Int32))).2 ?_
        show Steps p.tables e below (s₁.setTop (mkF m 32 #[.val (.int p0), .val (.long q1), .second, .val (.long q2), .second, .val (.long q3), .second, .val (.int (p0 &&& (7 : Int32))), .unset, .unset, .unset, .unset] [])) _
        refine st367 _ ?_
        show Steps p.tables e below (T367.setTop (mkF m 34 #[.val (.int p0), .val (.long q1), .second, .val (.long q2), .second, .val (.long q3), .second, .val (.int (p0 &&& (7 : Int32))), .unset, .unset, .unset, .unset] [(.ref a367)])) _
        refine XS.astore X367.here hx rfl (hb hby at_34) rfl rfl (l' := #[.val (.int p0), .val (.long q1), .second, .val (.long q2), .second, .val (.long q3), .second, .val (.int (p0 &&& (7 : Int32))), .val (.ref a367), .unset, .unset, .unset]) rfl ?_
        show Steps p.tables e below (T367.setTop (mkF m 36 #[.val (.int p0), .val (.long q1), .second, .val (.long q2), .second, .val (.long q3), .second, .val (.int (p0 &&& (7 : Int32))), .val (.ref a367), .unset, .unset, .unset] [])) _
        refine XS.aload X367.here hx rfl (hb hby at_36) rfl rfl ?_
        show Steps p.tables e below (T367.setTop (mkF m 38 #[.val (.int p0), .val (.long q1), .second, .val (.long q2), .second, .val (.long q3), .second, .val (.int (p0 &&& (7 : Int32))), .val (.ref a367), .unset, .unset, .unset] [(.ref a367)])) _
        refine st373.trans ?_
        show Steps p.tables e below (T373.setTop (mkF m 41 #[.val (.int p0), .val (.long q1), .second, .val (.long q2), .second, .val (.long q3), .second, .val (.int (p0 &&& (7 : Int32))), .val (.ref a367), .unset, .unset, .unset] [(.int (Int32.ofNat own_t13.length))])) _
        refine XS.sipush X373.here hx rfl (hb hby at_41) ?_
        show Steps p.tables e below (T373.setTop (mkF m 44 #[.val (.int p0), .val (.long q1), .second, .val (.long q2), .second, .val (.long q3), .second, .val (.int (p0 &&& (7 : Int32))), .val (.ref a367), .unset, .unset, .unset] [(.int (128 : Int32)), (.int (Int32.ofNat own_t13.length))])) _
        refine XS.icmpNo X373.here hx rfl (hb hby at_44) rfl (teq ((by rw [own_t13l]; rfl) : (Int32.ofNat own_t13.length) = (128 : Int32))).2 ?_
        show Steps p.tables e below (T373.setTop (mkF m 47 #[.val (.int p0), .val (.long q1), .second, .val (.long q2), .second, .val (.long q3), .second, .val (.int (p0 &&& (7 : Int32))), .val (.ref a367), .unset, .unset, .unset] [])) _
        refine XS.aload X373.here hx rfl (hb hby at_47) rfl rfl ?_
        show Steps p.tables e below (T373.setTop (mkF m 49 #[.val (.int p0), .val (.long q1), .second, .val (.long q2), .second, .val (.long q3), .second, .val (.int (p0 &&& (7 : Int32))), .val (.ref a367), .unset, .unset, .unset] [(.ref a367)])) _
        refine st378 _ ?_
        show Steps p.tables e below (T378.setTop (mkF m 52 #[.val (.int p0), .val (.long q1), .second, .val (.long q2), .second, .val (.long q3), .second, .val (.int (p0 &&& (7 : Int32))), .val (.ref a367), .unset, .unset, .unset] [(.int (bi (own_val own_t13)))])) _
        refine XS.ifNo X378.here hx rfl (hb hby at_52) rfl ((if0 _ _).trans (feq ((bi_n own_t13v) : ¬ ((bi (own_val own_t13)) = (0 : Int32)))).1) ?_
        show Steps p.tables e below (T378.setTop (mkF m 55 #[.val (.int p0), .val (.long q1), .second, .val (.long q2), .second, .val (.long q3), .second, .val (.int (p0 &&& (7 : Int32))), .val (.ref a367), .unset, .unset, .unset] [])) _
        refine XS.iconst X378.here hx rfl (hb hby at_55) ?_
        show Steps p.tables e below (T378.setTop (mkF m 56 #[.val (.int p0), .val (.long q1), .second, .val (.long q2), .second, .val (.long q3), .second, .val (.int (p0 &&& (7 : Int32))), .val (.ref a367), .unset, .unset, .unset] [(.int (1 : Int32))])) _
        refine XS.goto X378.here hx rfl (pc0 := 56) (pc' := 60) rfl (hb hby at_56) (by decide) (by decide) ?_
        show Steps p.tables e below (T378.setTop (mkF m 60 #[.val (.int p0), .val (.long q1), .second, .val (.long q2), .second, .val (.long q3), .second, .val (.int (p0 &&& (7 : Int32))), .val (.ref a367), .unset, .unset, .unset] [(.int (1 : Int32))])) _
        exact retN X378 hx (t := .boolean) Bd.returns (by simp) (hb hby at_60) hr
      · show Qrm0 Z p0 q1 q2 q3 G1 fm h0 n0 _ T378.heap _
        rw [e378]
        exact ⟨rfl, (fun y hy => Nat.le_trans Z0 (N378 y hy)), KC369⟩
    · have pre380 : ∀ t, Steps p.tables e below (s₁.setTop (mkF m 65 #[.val (.int p0), .val (.long q1), .second, .val (.long q2), .second, .val (.long q3), .second, .val (.int (p0 &&& (7 : Int32))), .unset, .unset, .unset, .unset] [(.int (7 : Int32)), (.int (p0 &&& (7 : Int32)))])) t → Steps p.tables e below (s₁.setTop (entryFrame m #[(.int p0), (.long q1), (.long q2), (.long q3)] maxLocals)) t := fun t k => by
        refine pre365 _ ?_
        show Steps p.tables e below (s₁.setTop (mkF m 29 #[.val (.int p0), .val (.long q1), .second, .val (.long q2), .second, .val (.long q3), .second, .val (.int (p0 &&& (7 : Int32))), .unset, .unset, .unset, .unset] [(.int (6 : Int32)), (.int (p0 &&& (7 : Int32)))])) _
        refine XS.icmpYes X0.here hx rfl (pc0 := 29) (pc' := 61) rfl (hb hby at_29) rfl (feq (hc366 : ¬ ((p0 &&& (7 : Int32)) = (6 : Int32)))).2 (by decide) (by decide) ?_
        show Steps p.tables e below (s₁.setTop (mkF m 61 #[.val (.int p0), .val (.long q1), .second, .val (.long q2), .second, .val (.long q3), .second, .val (.int (p0 &&& (7 : Int32))), .unset, .unset, .unset, .unset] [])) _
        refine XS.iload X0.here hx rfl (hb hby at_61) rfl ?_
        show Steps p.tables e below (s₁.setTop (mkF m 63 #[.val (.int p0), .val (.long q1), .second, .val (.long q2), .second, .val (.long q3), .second, .val (.int (p0 &&& (7 : Int32))), .unset, .unset, .unset, .unset] [(.int (p0 &&& (7 : Int32)))])) _
        refine XS.bipush X0.here hx rfl (hb hby at_63) ?_
        exact k
      by_cases hc381 : (p0 &&& (7 : Int32)) = (7 : Int32)
      · obtain ⟨a382, T382, h382, k382, bv382, kb382, X382, e382, E382, hS382, z382k, hZ382, hw382, PE382, PC382, PV382, PA382, z382a, z382b, hI382, Lt382, st382⟩ := ldcSVL (s := s) (vm0 := s.vm) X0 hx hZ hown (hw _ (List.mem_of_getElem? (i := 32) rfl)) (fun d hd => hw d (own_sa d hd)) e0 hS0 (by omega) (by rw [hh]; exact N0) (fun b cl q => by rw [hh]; exact X00.2 b cl q) hI (by decide) hh21 hcw (vs := [(.int (65 : Int32)), (.int (66 : Int32)), (.int (67 : Int32)), (.int (68 : Int32)), (.int (69 : Int32)), (.int (70 : Int32)), (.int (71 : Int32)), (.int (72 : Int32)), (.int (73 : Int32)), (.int (74 : Int32)), (.int (75 : Int32)), (.int (76 : Int32)), (.int (77 : Int32)), (.int (78 : Int32)), (.int (79 : Int32)), (.int (80 : Int32)), (.int (81 : Int32)), (.int (82 : Int32)), (.int (83 : Int32)), (.int (84 : Int32)), (.int (85 : Int32)), (.int (86 : Int32)), (.int (87 : Int32)), (.int (88 : Int32)), (.int (89 : Int32)), (.int (90 : Int32)), (.int (97 : Int32)), (.int (98 : Int32)), (.int (99 : Int32)), (.int (100 : Int32)), (.int (101 : Int32)), (.int (102 : Int32)), (.int (103 : Int32)), (.int (104 : Int32)), (.int (105 : Int32)), (.int (106 : Int32)), (.int (107 : Int32)), (.int (108 : Int32)), (.int (109 : Int32)), (.int (110 : Int32)), (.int (111 : Int32)), (.int (112 : Int32)), (.int (113 : Int32)), (.int (114 : Int32)), (.int (115 : Int32)), (.int (116 : Int32)), (.int (117 : Int32)), (.int (118 : Int32)), (.int (119 : Int32)), (.int (120 : Int32)), (.int (121 : Int32)), (.int (122 : Int32)), (.int (48 : Int32)), (.int (49 : Int32)), (.int (50 : Int32)), (.int (51 : Int32)), (.int (52 : Int32)), (.int (53 : Int32)), (.int (54 : Int32)), (.int (55 : Int32)), (.int (56 : Int32)), (.int (57 : Int32)), (.int (46 : Int32)), (.int (95 : Int32)), (.int (58 : Int32)), (.int (45 : Int32)), (.int (65 : Int32)), (.int (66 : Int32)), (.int (67 : Int32)), (.int (68 : Int32)), (.int (69 : Int32)), (.int (70 : Int32)), (.int (71 : Int32)), (.int (72 : Int32)), (.int (73 : Int32)), (.int (74 : Int32)), (.int (75 : Int32)), (.int (76 : Int32)), (.int (77 : Int32)), (.int (78 : Int32)), (.int (79 : Int32)), (.int (80 : Int32)), (.int (81 : Int32)), (.int (82 : Int32)), (.int (83 : Int32)), (.int (84 : Int32)), (.int (85 : Int32)), (.int (86 : Int32)), (.int (87 : Int32)), (.int (88 : Int32)), (.int (89 : Int32)), (.int (90 : Int32)), (.int (97 : Int32)), (.int (98 : Int32)), (.int (99 : Int32)), (.int (100 : Int32)), (.int (101 : Int32)), (.int (102 : Int32)), (.int (103 : Int32)), (.int (104 : Int32)), (.int (105 : Int32)), (.int (106 : Int32)), (.int (107 : Int32)), (.int (108 : Int32)), (.int (109 : Int32)), (.int (110 : Int32)), (.int (111 : Int32)), (.int (112 : Int32)), (.int (113 : Int32)), (.int (114 : Int32)), (.int (115 : Int32)), (.int (116 : Int32)), (.int (117 : Int32)), (.int (118 : Int32)), (.int (119 : Int32)), (.int (120 : Int32)), (.int (121 : Int32)), (.int (122 : Int32)), (.int (48 : Int32)), (.int (49 : Int32)), (.int (50 : Int32)), (.int (51 : Int32)), (.int (52 : Int32)), (.int (53 : Int32)), (.int (54 : Int32)), (.int (55 : Int32)), (.int (56 : Int32)), (.int (57 : Int32)), (.int (95 : Int32))]) (z := (129 : Int32)) ⟨by decide, rfl⟩ (by decide) rfl (g := (mkF m 68 #[.val (.int p0), .val (.long q1), .second, .val (.long q2), .second, .val (.long q3), .second, .val (.int (p0 &&& (7 : Int32))), .unset, .unset, .unset, .unset] [])) rfl (hb hby at_68) (n := 516) (by decide) (by decide) (by decide) (by decide)
        have z383 := E382.1
        have KC384 : Keep h0 h382 [] := KC0.ext E382
        have z385 : @LT.lt Nat _ a382 (Array.size h382) := PE382.lt
        have z386 : @LT.lt Nat _ bv382 (Array.size h382) := PA382.lt
        have Vt21 : Arv Z h382 bv382 kb382 .byte (Int32.ofNat own_t21.length) (own_t21.map (fun c => Value.int (lo8 c))) (.int (0 : Int32)) := by rw [own_t21b, own_t21l]; exact PA382
        have Fc387 := (H3.ext E382)
        obtain ⟨cq388, kq388, qa388, qb388, qc388⟩ := isOf hZ382 e382 PE382
        obtain ⟨_, _, ⟨T388, L388, k388, n388⟩, -, X388, ⟨Lc388, hQ388, l388, y388, z388⟩, st388⟩ := X382.virtualBack hx (y := (⟨"java/lang/String", "length", "()I"⟩ : MethodName)) (z := (⟨"java/lang/String", "length", "()I"⟩ : MethodName)) hw382 (mvT hZ382 (hw _ (List.mem_of_getElem? (i := 33) rfl))) (mvT hZ382 (hw _ (List.mem_of_getElem? (i := 34) rfl))) (notFace_of_selects (args := #[]) (mvT hZ382 (hw _ (List.mem_of_getElem? (i := 36) rfl)))) (mvT hZ382 (hw _ (List.mem_of_getElem? (i := 36) rfl))) (mvT hZ382 (hw _ (List.mem_of_getElem? (i := 35) rfl))) (by decide) (backOf (W := 0) (rmLen l Z a0 hw [] a382 G1 own_t21 bv382 kb382 (0 : Int32) own_t21.length (own_t21.map (fun c => Value.int (lo8 c))) h382 h0.size (by omega) Fc387 (hG1 : ¬ (G1 = (0 : Int32))) PE382 PV382 PC382 Vt21 (own_t21c : own_cod own_t21 (0 : Int32) own_t21.length (own_t21.map (fun c => Value.int (lo8 c)))) ((by rw [own_t21l]; decide) : own_t21.length ≤ 1000) (own_t21d : own_bd own_t21)) hZ382 (hw _ (List.mem_of_getElem? (i := 37) rfl)) (hw _ (List.mem_of_getElem? (i := 4) rfl)) (by decide) (by decide)) qa388 qc388 (g := (mkF m 74 #[.val (.int p0), .val (.long q1), .second, .val (.long q2), .second, .val (.long q3), .second, .val (.int (p0 &&& (7 : Int32))), .val (.ref a382), .unset, .unset, .unset] [(.ref a382)])) rfl (by rw [hml]; rfl) (Steps.refl _) (argsL := []) (rest := []) (lenOf pd_13 rfl) rfl (by show 2 * 0 + _ ≤ _; exact Nat.le_of_eq rfl) (hb hby at_74) (fun _ _ => ⟨rfl, e382, (by decide : 2 + 0 ≤ _), (by decide : 520 + 0 ≤ _)⟩)
        dsimp only [Pt.U, Pt.locs, Pt.cells, Pt.slots] at X388 l388 y388 z388 st388 hQ388
        subst l388 y388 z388
        obtain ⟨rfl, N388q, e388⟩ := hQ388
        have N388 := Fr.app N0 N388q
        have Fc389 := (H0.ext E382)
        have Fc390 := (H1.ext E382)
        have Fc391 := (H2.ext E382)
        have Fc392 := (H5.ext E382)
        obtain ⟨_, _, ⟨T393, L393, k393, n393⟩, -, X393, ⟨Lc393, hQ393, l393, y393, z393⟩, st393⟩ := Jvm.LawKit.callS X388 hx (y := (⟨"com/example/delay_buckets/delaybuckets/Names", "isValid", "(Ljava/lang/String;)Z"⟩ : MethodName)) hw382 (mvT hZ382 (hw _ (List.mem_of_getElem? (i := 23) rfl))) (mvT hZ382 (hw _ (List.mem_of_getElem? (i := 24) rfl))) (mvT hZ382 (hw _ (List.mem_of_getElem? (i := 25) rfl))) (mvT hZ382 (hw _ (List.mem_of_getElem? (i := 26) rfl))) (by decide) (backOf (W := 0) (rmIvs l Z a0 hw [] a382 G1 own_t21 bv382 kb382 (0 : Int32) own_t21.length (own_t21.map (fun c => Value.int (lo8 c))) fm h382 h0.size (by omega) Fc389 Fc390 Fc391 Fc387 (hG1 : ¬ (G1 = (0 : Int32))) Fc392 (rf : fm.isRef = true) PE382 PV382 PC382 Vt21 (own_t21c : own_cod own_t21 (0 : Int32) own_t21.length (own_t21.map (fun c => Value.int (lo8 c)))) ((by rw [own_t21l]; decide) : own_t21.length ≤ 1000) (own_t21d : own_bd own_t21)) hZ382 (hw _ (List.mem_of_getElem? (i := 26) rfl)) (hw _ (List.mem_of_getElem? (i := 25) rfl)) (by decide) (by decide)) (g := (mkF m 85 #[.val (.int p0), .val (.long q1), .second, .val (.long q2), .second, .val (.long q3), .second, .val (.int (p0 &&& (7 : Int32))), .val (.ref a382), .unset, .unset, .unset] [(.ref a382)])) rfl (by rw [hml]; rfl) (argsL := [(.ref a382)]) (rest := []) (lenOf pd_17 rfl) rfl (by show 2 * 0 + _ ≤ _; exact Nat.le_of_eq rfl) (hb hby at_85) (fun _ _ => ⟨rfl, e388, (by decide : 2 + 0 ≤ _), (by decide : 520 + 0 ≤ _)⟩)
        dsimp only [Pt.U, Pt.locs, Pt.cells, Pt.slots] at X393 l393 y393 z393 st393 hQ393
        subst l393 y393 z393
        obtain ⟨rfl, N393q, e393⟩ := hQ393
        have N393 := Fr.app N388 N393q
        have z394 := congrArg Array.size e393
        obtain ⟨fs, hr, hrun, hended, rE1, rE2, rE3, rE4⟩ := leaveW (s := s) (vm₁ := T382.vm) X393 hS382 (by omega : k382 ≤ T393.heap.size) (v := some (.int (1 : Int32))) (fun h => by rw [Bd.returns] at h; cases h)
        refine ⟨_, _, pre380 _ ?_, hrun, hended, _, _, rfl, ?_, rE1, rE2, rE3, rE4.mono (by decide) (by decide)⟩
        · show Steps p.tables e below (s₁.setTop (mkF m 65 #[.val (.int p0), .val (.long q1), .second, .val (.long q2), .second, .val (.long q3), .second, .val (.int (p0 &&& (7 : Int32))), .unset, .unset, .unset, .unset] [(.int (7 : Int32)), (.int (p0 &&& (7 : Int32)))])) _
          refine XS.icmpNo X0.here hx rfl (hb hby at_65) rfl (teq (hc381 : (p0 &&& (7 : Int32)) = (7 : Int32))).2 ?_
          show Steps p.tables e below (s₁.setTop (mkF m 68 #[.val (.int p0), .val (.long q1), .second, .val (.long q2), .second, .val (.long q3), .second, .val (.int (p0 &&& (7 : Int32))), .unset, .unset, .unset, .unset] [])) _
          refine st382 _ ?_
          show Steps p.tables e below (T382.setTop (mkF m 70 #[.val (.int p0), .val (.long q1), .second, .val (.long q2), .second, .val (.long q3), .second, .val (.int (p0 &&& (7 : Int32))), .unset, .unset, .unset, .unset] [(.ref a382)])) _
          refine XS.astore X382.here hx rfl (hb hby at_70) rfl rfl (l' := #[.val (.int p0), .val (.long q1), .second, .val (.long q2), .second, .val (.long q3), .second, .val (.int (p0 &&& (7 : Int32))), .val (.ref a382), .unset, .unset, .unset]) rfl ?_
          show Steps p.tables e below (T382.setTop (mkF m 72 #[.val (.int p0), .val (.long q1), .second, .val (.long q2), .second, .val (.long q3), .second, .val (.int (p0 &&& (7 : Int32))), .val (.ref a382), .unset, .unset, .unset] [])) _
          refine XS.aload X382.here hx rfl (hb hby at_72) rfl rfl ?_
          show Steps p.tables e below (T382.setTop (mkF m 74 #[.val (.int p0), .val (.long q1), .second, .val (.long q2), .second, .val (.long q3), .second, .val (.int (p0 &&& (7 : Int32))), .val (.ref a382), .unset, .unset, .unset] [(.ref a382)])) _
          refine st388.trans ?_
          show Steps p.tables e below (T388.setTop (mkF m 77 #[.val (.int p0), .val (.long q1), .second, .val (.long q2), .second, .val (.long q3), .second, .val (.int (p0 &&& (7 : Int32))), .val (.ref a382), .unset, .unset, .unset] [(.int (Int32.ofNat own_t21.length))])) _
          refine XS.sipush X388.here hx rfl (hb hby at_77) ?_
          show Steps p.tables e below (T388.setTop (mkF m 80 #[.val (.int p0), .val (.long q1), .second, .val (.long q2), .second, .val (.long q3), .second, .val (.int (p0 &&& (7 : Int32))), .val (.ref a382), .unset, .unset, .unset] [(.int (129 : Int32)), (.int (Int32.ofNat own_t21.length))])) _
          refine XS.icmpNo X388.here hx rfl (hb hby at_80) rfl (teq ((by rw [own_t21l]; rfl) : (Int32.ofNat own_t21.length) = (129 : Int32))).2 ?_
          show Steps p.tables e below (T388.setTop (mkF m 83 #[.val (.int p0), .val (.long q1), .second, .val (.long q2), .second, .val (.long q3), .second, .val (.int (p0 &&& (7 : Int32))), .val (.ref a382), .unset, .unset, .unset] [])) _
          refine XS.aload X388.here hx rfl (hb hby at_83) rfl rfl ?_
          show Steps p.tables e below (T388.setTop (mkF m 85 #[.val (.int p0), .val (.long q1), .second, .val (.long q2), .second, .val (.long q3), .second, .val (.int (p0 &&& (7 : Int32))), .val (.ref a382), .unset, .unset, .unset] [(.ref a382)])) _
          refine st393 _ ?_
          show Steps p.tables e below (T393.setTop (mkF m 88 #[.val (.int p0), .val (.long q1), .second, .val (.long q2), .second, .val (.long q3), .second, .val (.int (p0 &&& (7 : Int32))), .val (.ref a382), .unset, .unset, .unset] [(.int (bi (own_val own_t21)))])) _
          refine XS.ifNo X393.here hx rfl (hb hby at_88) rfl ((if0 _ _).trans (teq ((bi_f own_t21v) : (bi (own_val own_t21)) = (0 : Int32))).2) ?_
          show Steps p.tables e below (T393.setTop (mkF m 91 #[.val (.int p0), .val (.long q1), .second, .val (.long q2), .second, .val (.long q3), .second, .val (.int (p0 &&& (7 : Int32))), .val (.ref a382), .unset, .unset, .unset] [])) _
          refine XS.iconst X393.here hx rfl (hb hby at_91) ?_
          show Steps p.tables e below (T393.setTop (mkF m 92 #[.val (.int p0), .val (.long q1), .second, .val (.long q2), .second, .val (.long q3), .second, .val (.int (p0 &&& (7 : Int32))), .val (.ref a382), .unset, .unset, .unset] [(.int (1 : Int32))])) _
          refine XS.goto X393.here hx rfl (pc0 := 92) (pc' := 96) rfl (hb hby at_92) (by decide) (by decide) ?_
          show Steps p.tables e below (T393.setTop (mkF m 96 #[.val (.int p0), .val (.long q1), .second, .val (.long q2), .second, .val (.long q3), .second, .val (.int (p0 &&& (7 : Int32))), .val (.ref a382), .unset, .unset, .unset] [(.int (1 : Int32))])) _
          exact retN X393 hx (t := .boolean) Bd.returns (by simp) (hb hby at_96) hr
        · show Qrm0 Z p0 q1 q2 q3 G1 fm h0 n0 _ T393.heap _
          rw [e393]
          exact ⟨rfl, (fun y hy => Nat.le_trans Z0 (N393 y hy)), KC384⟩
      · obtain ⟨n, hn, en⟩ := own_mod13 ((p0.toUInt32 >>> ((3 : Int32) &&& 31).toUInt32).toInt32)
        have pre395 : ∀ t, Steps p.tables e below (s₁.setTop (mkF m 108 #[.val (.int p0), .val (.long q1), .second, .val (.long q2), .second, .val (.long q3), .second, .val (.int (p0 &&& (7 : Int32))), .val (.int ((((p0.toUInt32 >>> ((3 : Int32) &&& 31).toUInt32).toInt32) &&& (2147483647 : Int32)) % (13 : Int32))), .unset, .unset, .unset] [])) t → Steps p.tables e below (s₁.setTop (entryFrame m #[(.int p0), (.long q1), (.long q2), (.long q3)] maxLocals)) t := fun t k => by
          refine pre380 _ ?_
          show Steps p.tables e below (s₁.setTop (mkF m 65 #[.val (.int p0), .val (.long q1), .second, .val (.long q2), .second, .val (.long q3), .second, .val (.int (p0 &&& (7 : Int32))), .unset, .unset, .unset, .unset] [(.int (7 : Int32)), (.int (p0 &&& (7 : Int32)))])) _
          refine XS.icmpYes X0.here hx rfl (pc0 := 65) (pc' := 97) rfl (hb hby at_65) rfl (feq (hc381 : ¬ ((p0 &&& (7 : Int32)) = (7 : Int32)))).2 (by decide) (by decide) ?_
          show Steps p.tables e below (s₁.setTop (mkF m 97 #[.val (.int p0), .val (.long q1), .second, .val (.long q2), .second, .val (.long q3), .second, .val (.int (p0 &&& (7 : Int32))), .unset, .unset, .unset, .unset] [])) _
          refine XS.iloadN X0.here hx rfl (hb hby at_97) rfl ?_
          show Steps p.tables e below (s₁.setTop (mkF m 98 #[.val (.int p0), .val (.long q1), .second, .val (.long q2), .second, .val (.long q3), .second, .val (.int (p0 &&& (7 : Int32))), .unset, .unset, .unset, .unset] [(.int p0)])) _
          refine XS.iconst X0.here hx rfl (hb hby at_98) ?_
          show Steps p.tables e below (s₁.setTop (mkF m 99 #[.val (.int p0), .val (.long q1), .second, .val (.long q2), .second, .val (.long q3), .second, .val (.int (p0 &&& (7 : Int32))), .unset, .unset, .unset, .unset] [(.int (3 : Int32)), (.int p0)])) _
          refine XS.iushr X0.here hx rfl (hb hby at_99) rfl ?_
          show Steps p.tables e below (s₁.setTop (mkF m 100 #[.val (.int p0), .val (.long q1), .second, .val (.long q2), .second, .val (.long q3), .second, .val (.int (p0 &&& (7 : Int32))), .unset, .unset, .unset, .unset] [(.int ((p0.toUInt32 >>> ((3 : Int32) &&& 31).toUInt32).toInt32))])) _
          refine X0.ldcInt hx hown (mvT hZ (hw _ (List.mem_of_getElem? (i := 0) rfl))) (g := (mkF m 100 #[.val (.int p0), .val (.long q1), .second, .val (.long q2), .second, .val (.long q3), .second, .val (.int (p0 &&& (7 : Int32))), .unset, .unset, .unset, .unset] [(.int ((p0.toUInt32 >>> ((3 : Int32) &&& 31).toUInt32).toInt32))])) rfl (hb hby at_100) _ ?_
          show Steps p.tables e below (s₁.setTop (mkF m 102 #[.val (.int p0), .val (.long q1), .second, .val (.long q2), .second, .val (.long q3), .second, .val (.int (p0 &&& (7 : Int32))), .unset, .unset, .unset, .unset] [(.int (2147483647 : Int32)), (.int ((p0.toUInt32 >>> ((3 : Int32) &&& 31).toUInt32).toInt32))])) _
          refine XS.iand X0.here hx rfl (hb hby at_102) rfl ?_
          show Steps p.tables e below (s₁.setTop (mkF m 103 #[.val (.int p0), .val (.long q1), .second, .val (.long q2), .second, .val (.long q3), .second, .val (.int (p0 &&& (7 : Int32))), .unset, .unset, .unset, .unset] [(.int (((p0.toUInt32 >>> ((3 : Int32) &&& 31).toUInt32).toInt32) &&& (2147483647 : Int32)))])) _
          refine XS.bipush X0.here hx rfl (hb hby at_103) ?_
          show Steps p.tables e below (s₁.setTop (mkF m 105 #[.val (.int p0), .val (.long q1), .second, .val (.long q2), .second, .val (.long q3), .second, .val (.int (p0 &&& (7 : Int32))), .unset, .unset, .unset, .unset] [(.int (13 : Int32)), (.int (((p0.toUInt32 >>> ((3 : Int32) &&& 31).toUInt32).toInt32) &&& (2147483647 : Int32)))])) _
          refine iremM (g := (mkF m 105 #[.val (.int p0), .val (.long q1), .second, .val (.long q2), .second, .val (.long q3), .second, .val (.int (p0 &&& (7 : Int32))), .unset, .unset, .unset, .unset] [(.int (13 : Int32)), (.int (((p0.toUInt32 >>> ((3 : Int32) &&& 31).toUInt32).toInt32) &&& (2147483647 : Int32)))])) X0 hx rfl (hb hby at_105) rfl (by decide) ?_
          show Steps p.tables e below (s₁.setTop (mkF m 106 #[.val (.int p0), .val (.long q1), .second, .val (.long q2), .second, .val (.long q3), .second, .val (.int (p0 &&& (7 : Int32))), .unset, .unset, .unset, .unset] [(.int ((((p0.toUInt32 >>> ((3 : Int32) &&& 31).toUInt32).toInt32) &&& (2147483647 : Int32)) % (13 : Int32)))])) _
          refine XS.istore X0.here hx rfl (hb hby at_106) rfl (l' := #[.val (.int p0), .val (.long q1), .second, .val (.long q2), .second, .val (.long q3), .second, .val (.int (p0 &&& (7 : Int32))), .val (.int ((((p0.toUInt32 >>> ((3 : Int32) &&& 31).toUInt32).toInt32) &&& (2147483647 : Int32)) % (13 : Int32))), .unset, .unset, .unset]) rfl ?_
          exact k
        have pre396 : ∀ t, Steps p.tables e below (s₁.setTop (mkF m 108 #[.val (.int p0), .val (.long q1), .second, .val (.long q2), .second, .val (.long q3), .second, .val (.int (p0 &&& (7 : Int32))), .val (.int (Int32.ofNat n)), .unset, .unset, .unset] [])) t → Steps p.tables e below (s₁.setTop (entryFrame m #[(.int p0), (.long q1), (.long q2), (.long q3)] maxLocals)) t := fun t k => pre395 t (by rw [en]; exact k)
        obtain ⟨T397, h397, k397, X397, e397, E397, A397, st397⟩ := newP X0 hx hZ (hw _ (List.mem_of_getElem? (i := 1) rfl)) e0 (g := (mkF m 110 #[.val (.int p0), .val (.long q1), .second, .val (.long q2), .second, .val (.long q3), .second, .val (.int (p0 &&& (7 : Int32))), .val (.int (Int32.ofNat n)), .unset, .unset, .unset] [(.int (12 : Int32))])) rfl (hb hby at_110) rfl (by decide) (cap := 12) (by decide) (by decide) (by decide) (by decide)
        obtain ⟨b397, g397⟩ : ∃ z, z = h0.size := ⟨_, rfl⟩
        rw [← g397] at A397 st397
        have z398 := E397.1
        have KC399 : Keep h0 h397 [] := KC0.ext E397
        have V397 : Arv Z h397 b397 k397 .char (12 : Int32) [(.int (0 : Int32)), (.int (0 : Int32)), (.int (0 : Int32)), (.int (0 : Int32)), (.int (0 : Int32)), (.int (0 : Int32)), (.int (0 : Int32)), (.int (0 : Int32)), (.int (0 : Int32)), (.int (0 : Int32)), (.int (0 : Int32)), (.int (0 : Int32))] (.int (0 : Int32)) := (Arv.new A397 (by decide)).pad (pad_rep [] (.int (0 : Int32)) 12)
        have z400 : @LT.lt Nat _ b397 (Array.size h397) := V397.lt
        obtain ⟨cl401, Ar401, q401, S401, N401', H401, G401⟩ := id V397
        have hin401 : ¬ ((0 : Int32) < 0 ∨ cl401.slots.size ≤ ((0 : Int32)).toNatClampNeg) := inb_of S401 ⟨by decide, by decide⟩
        obtain ⟨T402, h402, X402, e402, W402, st402⟩ := stC X397 hx hZ e397 Ar401 (j := (0 : Int32)) hin401 (g := (mkF m 120 #[.val (.int p0), .val (.long q1), .second, .val (.long q2), .second, .val (.long q3), .second, .val (.int (p0 &&& (7 : Int32))), .val (.int (Int32.ofNat n)), .val (.ref b397), .unset, .unset] [(.int ((q1.toInt32).toUInt32.toUInt16.toUInt32.toInt32)), (.int (0 : Int32)), (.ref b397)])) rfl rfl (hb hby at_120)
        have z403 := W402.size
        have N402 := Fr.snoc X402 N0 (by omega : h0.size ≤ b397)
        have KC404 : Keep h0 h402 [] := KC399.wr W402 (Or.inr (by omega))
        have V402 : Arv Z h402 b397 k397 .char (12 : Int32) [(.int (nar .char ((q1.toInt32).toUInt32.toUInt16.toUInt32.toInt32))), (.int (0 : Int32)), (.int (0 : Int32)), (.int (0 : Int32)), (.int (0 : Int32)), (.int (0 : Int32)), (.int (0 : Int32)), (.int (0 : Int32)), (.int (0 : Int32)), (.int (0 : Int32)), (.int (0 : Int32)), (.int (0 : Int32))] (.int (0 : Int32)) := Arv.set Ar401 q401 S401 N401' H401 G401 (fits_nar_char _) W402 0 rfl (Nat.le_of_ble_eq_true rfl)
        obtain ⟨cl405, Ar405, q405, S405, N405', H405, G405⟩ := id V402
        have hin405 : ¬ ((1 : Int32) < 0 ∨ cl405.slots.size ≤ ((1 : Int32)).toNatClampNeg) := inb_of S405 ⟨by decide, by decide⟩
        obtain ⟨T406, h406, X406, e406, W406, st406⟩ := stC X402 hx hZ e402 Ar405 (j := (1 : Int32)) hin405 (g := (mkF m 130 #[.val (.int p0), .val (.long q1), .second, .val (.long q2), .second, .val (.long q3), .second, .val (.int (p0 &&& (7 : Int32))), .val (.int (Int32.ofNat n)), .val (.ref b397), .unset, .unset] [(.int ((((q1.toUInt64 >>> ((16 : Int32) &&& 0x3f).toInt64.toUInt64).toInt64).toInt32).toUInt32.toUInt16.toUInt32.toInt32)), (.int (1 : Int32)), (.ref b397)])) rfl rfl (hb hby at_130)
        have z407 := W406.size
        have N406 := Fr.snoc X406 N402 (by omega : h0.size ≤ b397)
        have KC408 : Keep h0 h406 [] := KC404.wr W406 (Or.inr (by omega))
        have V406 : Arv Z h406 b397 k397 .char (12 : Int32) [(.int (nar .char ((q1.toInt32).toUInt32.toUInt16.toUInt32.toInt32))), (.int (nar .char ((((q1.toUInt64 >>> ((16 : Int32) &&& 0x3f).toInt64.toUInt64).toInt64).toInt32).toUInt32.toUInt16.toUInt32.toInt32))), (.int (0 : Int32)), (.int (0 : Int32)), (.int (0 : Int32)), (.int (0 : Int32)), (.int (0 : Int32)), (.int (0 : Int32)), (.int (0 : Int32)), (.int (0 : Int32)), (.int (0 : Int32)), (.int (0 : Int32))] (.int (0 : Int32)) := Arv.set Ar405 q405 S405 N405' H405 G405 (fits_nar_char _) W406 1 rfl (Nat.le_of_ble_eq_true rfl)
        obtain ⟨cl409, Ar409, q409, S409, N409', H409, G409⟩ := id V406
        have hin409 : ¬ ((2 : Int32) < 0 ∨ cl409.slots.size ≤ ((2 : Int32)).toNatClampNeg) := inb_of S409 ⟨by decide, by decide⟩
        obtain ⟨T410, h410, X410, e410, W410, st410⟩ := stC X406 hx hZ e406 Ar409 (j := (2 : Int32)) hin409 (g := (mkF m 140 #[.val (.int p0), .val (.long q1), .second, .val (.long q2), .second, .val (.long q3), .second, .val (.int (p0 &&& (7 : Int32))), .val (.int (Int32.ofNat n)), .val (.ref b397), .unset, .unset] [(.int ((((q1.toUInt64 >>> ((32 : Int32) &&& 0x3f).toInt64.toUInt64).toInt64).toInt32).toUInt32.toUInt16.toUInt32.toInt32)), (.int (2 : Int32)), (.ref b397)])) rfl rfl (hb hby at_140)
        have z411 := W410.size
        have N410 := Fr.snoc X410 N406 (by omega : h0.size ≤ b397)
        have KC412 : Keep h0 h410 [] := KC408.wr W410 (Or.inr (by omega))
        have V410 : Arv Z h410 b397 k397 .char (12 : Int32) [(.int (nar .char ((q1.toInt32).toUInt32.toUInt16.toUInt32.toInt32))), (.int (nar .char ((((q1.toUInt64 >>> ((16 : Int32) &&& 0x3f).toInt64.toUInt64).toInt64).toInt32).toUInt32.toUInt16.toUInt32.toInt32))), (.int (nar .char ((((q1.toUInt64 >>> ((32 : Int32) &&& 0x3f).toInt64.toUInt64).toInt64).toInt32).toUInt32.toUInt16.toUInt32.toInt32))), (.int (0 : Int32)), (.int (0 : Int32)), (.int (0 : Int32)), (.int (0 : Int32)), (.int (0 : Int32)), (.int (0 : Int32)), (.int (0 : Int32)), (.int (0 : Int32)), (.int (0 : Int32))] (.int (0 : Int32)) := Arv.set Ar409 q409 S409 N409' H409 G409 (fits_nar_char _) W410 2 rfl (Nat.le_of_ble_eq_true rfl)
        obtain ⟨cl413, Ar413, q413, S413, N413', H413, G413⟩ := id V410
        have hin413 : ¬ ((3 : Int32) < 0 ∨ cl413.slots.size ≤ ((3 : Int32)).toNatClampNeg) := inb_of S413 ⟨by decide, by decide⟩
        obtain ⟨T414, h414, X414, e414, W414, st414⟩ := stC X410 hx hZ e410 Ar413 (j := (3 : Int32)) hin413 (g := (mkF m 150 #[.val (.int p0), .val (.long q1), .second, .val (.long q2), .second, .val (.long q3), .second, .val (.int (p0 &&& (7 : Int32))), .val (.int (Int32.ofNat n)), .val (.ref b397), .unset, .unset] [(.int ((((q1.toUInt64 >>> ((48 : Int32) &&& 0x3f).toInt64.toUInt64).toInt64).toInt32).toUInt32.toUInt16.toUInt32.toInt32)), (.int (3 : Int32)), (.ref b397)])) rfl rfl (hb hby at_150)
        have z415 := W414.size
        have N414 := Fr.snoc X414 N410 (by omega : h0.size ≤ b397)
        have KC416 : Keep h0 h414 [] := KC412.wr W414 (Or.inr (by omega))
        have V414 : Arv Z h414 b397 k397 .char (12 : Int32) [(.int (nar .char ((q1.toInt32).toUInt32.toUInt16.toUInt32.toInt32))), (.int (nar .char ((((q1.toUInt64 >>> ((16 : Int32) &&& 0x3f).toInt64.toUInt64).toInt64).toInt32).toUInt32.toUInt16.toUInt32.toInt32))), (.int (nar .char ((((q1.toUInt64 >>> ((32 : Int32) &&& 0x3f).toInt64.toUInt64).toInt64).toInt32).toUInt32.toUInt16.toUInt32.toInt32))), (.int (nar .char ((((q1.toUInt64 >>> ((48 : Int32) &&& 0x3f).toInt64.toUInt64).toInt64).toInt32).toUInt32.toUInt16.toUInt32.toInt32))), (.int (0 : Int32)), (.int (0 : Int32)), (.int (0 : Int32)), (.int (0 : Int32)), (.int (0 : Int32)), (.int (0 : Int32)), (.int (0 : Int32)), (.int (0 : Int32))] (.int (0 : Int32)) := Arv.set Ar413 q413 S413 N413' H413 G413 (fits_nar_char _) W414 3 rfl (Nat.le_of_ble_eq_true rfl)
        obtain ⟨cl417, Ar417, q417, S417, N417', H417, G417⟩ := id V414
        have hin417 : ¬ ((4 : Int32) < 0 ∨ cl417.slots.size ≤ ((4 : Int32)).toNatClampNeg) := inb_of S417 ⟨by decide, by decide⟩
        obtain ⟨T418, h418, X418, e418, W418, st418⟩ := stC X414 hx hZ e414 Ar417 (j := (4 : Int32)) hin417 (g := (mkF m 157 #[.val (.int p0), .val (.long q1), .second, .val (.long q2), .second, .val (.long q3), .second, .val (.int (p0 &&& (7 : Int32))), .val (.int (Int32.ofNat n)), .val (.ref b397), .unset, .unset] [(.int ((q2.toInt32).toUInt32.toUInt16.toUInt32.toInt32)), (.int (4 : Int32)), (.ref b397)])) rfl rfl (hb hby at_157)
        have z419 := W418.size
        have N418 := Fr.snoc X418 N414 (by omega : h0.size ≤ b397)
        have KC420 : Keep h0 h418 [] := KC416.wr W418 (Or.inr (by omega))
        have V418 : Arv Z h418 b397 k397 .char (12 : Int32) [(.int (nar .char ((q1.toInt32).toUInt32.toUInt16.toUInt32.toInt32))), (.int (nar .char ((((q1.toUInt64 >>> ((16 : Int32) &&& 0x3f).toInt64.toUInt64).toInt64).toInt32).toUInt32.toUInt16.toUInt32.toInt32))), (.int (nar .char ((((q1.toUInt64 >>> ((32 : Int32) &&& 0x3f).toInt64.toUInt64).toInt64).toInt32).toUInt32.toUInt16.toUInt32.toInt32))), (.int (nar .char ((((q1.toUInt64 >>> ((48 : Int32) &&& 0x3f).toInt64.toUInt64).toInt64).toInt32).toUInt32.toUInt16.toUInt32.toInt32))), (.int (nar .char ((q2.toInt32).toUInt32.toUInt16.toUInt32.toInt32))), (.int (0 : Int32)), (.int (0 : Int32)), (.int (0 : Int32)), (.int (0 : Int32)), (.int (0 : Int32)), (.int (0 : Int32)), (.int (0 : Int32))] (.int (0 : Int32)) := Arv.set Ar417 q417 S417 N417' H417 G417 (fits_nar_char _) W418 4 rfl (Nat.le_of_ble_eq_true rfl)
        obtain ⟨cl421, Ar421, q421, S421, N421', H421, G421⟩ := id V418
        have hin421 : ¬ ((5 : Int32) < 0 ∨ cl421.slots.size ≤ ((5 : Int32)).toNatClampNeg) := inb_of S421 ⟨by decide, by decide⟩
        obtain ⟨T422, h422, X422, e422, W422, st422⟩ := stC X418 hx hZ e418 Ar421 (j := (5 : Int32)) hin421 (g := (mkF m 167 #[.val (.int p0), .val (.long q1), .second, .val (.long q2), .second, .val (.long q3), .second, .val (.int (p0 &&& (7 : Int32))), .val (.int (Int32.ofNat n)), .val (.ref b397), .unset, .unset] [(.int ((((q2.toUInt64 >>> ((16 : Int32) &&& 0x3f).toInt64.toUInt64).toInt64).toInt32).toUInt32.toUInt16.toUInt32.toInt32)), (.int (5 : Int32)), (.ref b397)])) rfl rfl (hb hby at_167)
        have z423 := W422.size
        have N422 := Fr.snoc X422 N418 (by omega : h0.size ≤ b397)
        have KC424 : Keep h0 h422 [] := KC420.wr W422 (Or.inr (by omega))
        have V422 : Arv Z h422 b397 k397 .char (12 : Int32) [(.int (nar .char ((q1.toInt32).toUInt32.toUInt16.toUInt32.toInt32))), (.int (nar .char ((((q1.toUInt64 >>> ((16 : Int32) &&& 0x3f).toInt64.toUInt64).toInt64).toInt32).toUInt32.toUInt16.toUInt32.toInt32))), (.int (nar .char ((((q1.toUInt64 >>> ((32 : Int32) &&& 0x3f).toInt64.toUInt64).toInt64).toInt32).toUInt32.toUInt16.toUInt32.toInt32))), (.int (nar .char ((((q1.toUInt64 >>> ((48 : Int32) &&& 0x3f).toInt64.toUInt64).toInt64).toInt32).toUInt32.toUInt16.toUInt32.toInt32))), (.int (nar .char ((q2.toInt32).toUInt32.toUInt16.toUInt32.toInt32))), (.int (nar .char ((((q2.toUInt64 >>> ((16 : Int32) &&& 0x3f).toInt64.toUInt64).toInt64).toInt32).toUInt32.toUInt16.toUInt32.toInt32))), (.int (0 : Int32)), (.int (0 : Int32)), (.int (0 : Int32)), (.int (0 : Int32)), (.int (0 : Int32)), (.int (0 : Int32))] (.int (0 : Int32)) := Arv.set Ar421 q421 S421 N421' H421 G421 (fits_nar_char _) W422 5 rfl (Nat.le_of_ble_eq_true rfl)
        obtain ⟨cl425, Ar425, q425, S425, N425', H425, G425⟩ := id V422
        have hin425 : ¬ ((6 : Int32) < 0 ∨ cl425.slots.size ≤ ((6 : Int32)).toNatClampNeg) := inb_of S425 ⟨by decide, by decide⟩
        obtain ⟨T426, h426, X426, e426, W426, st426⟩ := stC X422 hx hZ e422 Ar425 (j := (6 : Int32)) hin425 (g := (mkF m 178 #[.val (.int p0), .val (.long q1), .second, .val (.long q2), .second, .val (.long q3), .second, .val (.int (p0 &&& (7 : Int32))), .val (.int (Int32.ofNat n)), .val (.ref b397), .unset, .unset] [(.int ((((q2.toUInt64 >>> ((32 : Int32) &&& 0x3f).toInt64.toUInt64).toInt64).toInt32).toUInt32.toUInt16.toUInt32.toInt32)), (.int (6 : Int32)), (.ref b397)])) rfl rfl (hb hby at_178)
        have z427 := W426.size
        have N426 := Fr.snoc X426 N422 (by omega : h0.size ≤ b397)
        have KC428 : Keep h0 h426 [] := KC424.wr W426 (Or.inr (by omega))
        have V426 : Arv Z h426 b397 k397 .char (12 : Int32) [(.int (nar .char ((q1.toInt32).toUInt32.toUInt16.toUInt32.toInt32))), (.int (nar .char ((((q1.toUInt64 >>> ((16 : Int32) &&& 0x3f).toInt64.toUInt64).toInt64).toInt32).toUInt32.toUInt16.toUInt32.toInt32))), (.int (nar .char ((((q1.toUInt64 >>> ((32 : Int32) &&& 0x3f).toInt64.toUInt64).toInt64).toInt32).toUInt32.toUInt16.toUInt32.toInt32))), (.int (nar .char ((((q1.toUInt64 >>> ((48 : Int32) &&& 0x3f).toInt64.toUInt64).toInt64).toInt32).toUInt32.toUInt16.toUInt32.toInt32))), (.int (nar .char ((q2.toInt32).toUInt32.toUInt16.toUInt32.toInt32))), (.int (nar .char ((((q2.toUInt64 >>> ((16 : Int32) &&& 0x3f).toInt64.toUInt64).toInt64).toInt32).toUInt32.toUInt16.toUInt32.toInt32))), (.int (nar .char ((((q2.toUInt64 >>> ((32 : Int32) &&& 0x3f).toInt64.toUInt64).toInt64).toInt32).toUInt32.toUInt16.toUInt32.toInt32))), (.int (0 : Int32)), (.int (0 : Int32)), (.int (0 : Int32)), (.int (0 : Int32)), (.int (0 : Int32))] (.int (0 : Int32)) := Arv.set Ar425 q425 S425 N425' H425 G425 (fits_nar_char _) W426 6 rfl (Nat.le_of_ble_eq_true rfl)
        obtain ⟨cl429, Ar429, q429, S429, N429', H429, G429⟩ := id V426
        have hin429 : ¬ ((7 : Int32) < 0 ∨ cl429.slots.size ≤ ((7 : Int32)).toNatClampNeg) := inb_of S429 ⟨by decide, by decide⟩
        obtain ⟨T430, h430, X430, e430, W430, st430⟩ := stC X426 hx hZ e426 Ar429 (j := (7 : Int32)) hin429 (g := (mkF m 189 #[.val (.int p0), .val (.long q1), .second, .val (.long q2), .second, .val (.long q3), .second, .val (.int (p0 &&& (7 : Int32))), .val (.int (Int32.ofNat n)), .val (.ref b397), .unset, .unset] [(.int ((((q2.toUInt64 >>> ((48 : Int32) &&& 0x3f).toInt64.toUInt64).toInt64).toInt32).toUInt32.toUInt16.toUInt32.toInt32)), (.int (7 : Int32)), (.ref b397)])) rfl rfl (hb hby at_189)
        have z431 := W430.size
        have N430 := Fr.snoc X430 N426 (by omega : h0.size ≤ b397)
        have KC432 : Keep h0 h430 [] := KC428.wr W430 (Or.inr (by omega))
        have V430 : Arv Z h430 b397 k397 .char (12 : Int32) [(.int (nar .char ((q1.toInt32).toUInt32.toUInt16.toUInt32.toInt32))), (.int (nar .char ((((q1.toUInt64 >>> ((16 : Int32) &&& 0x3f).toInt64.toUInt64).toInt64).toInt32).toUInt32.toUInt16.toUInt32.toInt32))), (.int (nar .char ((((q1.toUInt64 >>> ((32 : Int32) &&& 0x3f).toInt64.toUInt64).toInt64).toInt32).toUInt32.toUInt16.toUInt32.toInt32))), (.int (nar .char ((((q1.toUInt64 >>> ((48 : Int32) &&& 0x3f).toInt64.toUInt64).toInt64).toInt32).toUInt32.toUInt16.toUInt32.toInt32))), (.int (nar .char ((q2.toInt32).toUInt32.toUInt16.toUInt32.toInt32))), (.int (nar .char ((((q2.toUInt64 >>> ((16 : Int32) &&& 0x3f).toInt64.toUInt64).toInt64).toInt32).toUInt32.toUInt16.toUInt32.toInt32))), (.int (nar .char ((((q2.toUInt64 >>> ((32 : Int32) &&& 0x3f).toInt64.toUInt64).toInt64).toInt32).toUInt32.toUInt16.toUInt32.toInt32))), (.int (nar .char ((((q2.toUInt64 >>> ((48 : Int32) &&& 0x3f).toInt64.toUInt64).toInt64).toInt32).toUInt32.toUInt16.toUInt32.toInt32))), (.int (0 : Int32)), (.int (0 : Int32)), (.int (0 : Int32)), (.int (0 : Int32))] (.int (0 : Int32)) := Arv.set Ar429 q429 S429 N429' H429 G429 (fits_nar_char _) W430 7 rfl (Nat.le_of_ble_eq_true rfl)
        obtain ⟨cl433, Ar433, q433, S433, N433', H433, G433⟩ := id V430
        have hin433 : ¬ ((8 : Int32) < 0 ∨ cl433.slots.size ≤ ((8 : Int32)).toNatClampNeg) := inb_of S433 ⟨by decide, by decide⟩
        obtain ⟨T434, h434, X434, e434, W434, st434⟩ := stC X430 hx hZ e430 Ar433 (j := (8 : Int32)) hin433 (g := (mkF m 198 #[.val (.int p0), .val (.long q1), .second, .val (.long q2), .second, .val (.long q3), .second, .val (.int (p0 &&& (7 : Int32))), .val (.int (Int32.ofNat n)), .val (.ref b397), .unset, .unset] [(.int ((q3.toInt32).toUInt32.toUInt16.toUInt32.toInt32)), (.int (8 : Int32)), (.ref b397)])) rfl rfl (hb hby at_198)
        have z435 := W434.size
        have N434 := Fr.snoc X434 N430 (by omega : h0.size ≤ b397)
        have KC436 : Keep h0 h434 [] := KC432.wr W434 (Or.inr (by omega))
        have V434 : Arv Z h434 b397 k397 .char (12 : Int32) [(.int (nar .char ((q1.toInt32).toUInt32.toUInt16.toUInt32.toInt32))), (.int (nar .char ((((q1.toUInt64 >>> ((16 : Int32) &&& 0x3f).toInt64.toUInt64).toInt64).toInt32).toUInt32.toUInt16.toUInt32.toInt32))), (.int (nar .char ((((q1.toUInt64 >>> ((32 : Int32) &&& 0x3f).toInt64.toUInt64).toInt64).toInt32).toUInt32.toUInt16.toUInt32.toInt32))), (.int (nar .char ((((q1.toUInt64 >>> ((48 : Int32) &&& 0x3f).toInt64.toUInt64).toInt64).toInt32).toUInt32.toUInt16.toUInt32.toInt32))), (.int (nar .char ((q2.toInt32).toUInt32.toUInt16.toUInt32.toInt32))), (.int (nar .char ((((q2.toUInt64 >>> ((16 : Int32) &&& 0x3f).toInt64.toUInt64).toInt64).toInt32).toUInt32.toUInt16.toUInt32.toInt32))), (.int (nar .char ((((q2.toUInt64 >>> ((32 : Int32) &&& 0x3f).toInt64.toUInt64).toInt64).toInt32).toUInt32.toUInt16.toUInt32.toInt32))), (.int (nar .char ((((q2.toUInt64 >>> ((48 : Int32) &&& 0x3f).toInt64.toUInt64).toInt64).toInt32).toUInt32.toUInt16.toUInt32.toInt32))), (.int (nar .char ((q3.toInt32).toUInt32.toUInt16.toUInt32.toInt32))), (.int (0 : Int32)), (.int (0 : Int32)), (.int (0 : Int32))] (.int (0 : Int32)) := Arv.set Ar433 q433 S433 N433' H433 G433 (fits_nar_char _) W434 8 rfl (Nat.le_of_ble_eq_true rfl)
        obtain ⟨cl437, Ar437, q437, S437, N437', H437, G437⟩ := id V434
        have hin437 : ¬ ((9 : Int32) < 0 ∨ cl437.slots.size ≤ ((9 : Int32)).toNatClampNeg) := inb_of S437 ⟨by decide, by decide⟩
        obtain ⟨T438, h438, X438, e438, W438, st438⟩ := stC X434 hx hZ e434 Ar437 (j := (9 : Int32)) hin437 (g := (mkF m 210 #[.val (.int p0), .val (.long q1), .second, .val (.long q2), .second, .val (.long q3), .second, .val (.int (p0 &&& (7 : Int32))), .val (.int (Int32.ofNat n)), .val (.ref b397), .unset, .unset] [(.int ((((q3.toUInt64 >>> ((16 : Int32) &&& 0x3f).toInt64.toUInt64).toInt64).toInt32).toUInt32.toUInt16.toUInt32.toInt32)), (.int (9 : Int32)), (.ref b397)])) rfl rfl (hb hby at_210)
        have z439 := W438.size
        have N438 := Fr.snoc X438 N434 (by omega : h0.size ≤ b397)
        have KC440 : Keep h0 h438 [] := KC436.wr W438 (Or.inr (by omega))
        have V438 : Arv Z h438 b397 k397 .char (12 : Int32) [(.int (nar .char ((q1.toInt32).toUInt32.toUInt16.toUInt32.toInt32))), (.int (nar .char ((((q1.toUInt64 >>> ((16 : Int32) &&& 0x3f).toInt64.toUInt64).toInt64).toInt32).toUInt32.toUInt16.toUInt32.toInt32))), (.int (nar .char ((((q1.toUInt64 >>> ((32 : Int32) &&& 0x3f).toInt64.toUInt64).toInt64).toInt32).toUInt32.toUInt16.toUInt32.toInt32))), (.int (nar .char ((((q1.toUInt64 >>> ((48 : Int32) &&& 0x3f).toInt64.toUInt64).toInt64).toInt32).toUInt32.toUInt16.toUInt32.toInt32))), (.int (nar .char ((q2.toInt32).toUInt32.toUInt16.toUInt32.toInt32))), (.int (nar .char ((((q2.toUInt64 >>> ((16 : Int32) &&& 0x3f).toInt64.toUInt64).toInt64).toInt32).toUInt32.toUInt16.toUInt32.toInt32))), (.int (nar .char ((((q2.toUInt64 >>> ((32 : Int32) &&& 0x3f).toInt64.toUInt64).toInt64).toInt32).toUInt32.toUInt16.toUInt32.toInt32))), (.int (nar .char ((((q2.toUInt64 >>> ((48 : Int32) &&& 0x3f).toInt64.toUInt64).toInt64).toInt32).toUInt32.toUInt16.toUInt32.toInt32))), (.int (nar .char ((q3.toInt32).toUInt32.toUInt16.toUInt32.toInt32))), (.int (nar .char ((((q3.toUInt64 >>> ((16 : Int32) &&& 0x3f).toInt64.toUInt64).toInt64).toInt32).toUInt32.toUInt16.toUInt32.toInt32))), (.int (0 : Int32)), (.int (0 : Int32))] (.int (0 : Int32)) := Arv.set Ar437 q437 S437 N437' H437 G437 (fits_nar_char _) W438 9 rfl (Nat.le_of_ble_eq_true rfl)
        obtain ⟨cl441, Ar441, q441, S441, N441', H441, G441⟩ := id V438
        have hin441 : ¬ ((10 : Int32) < 0 ∨ cl441.slots.size ≤ ((10 : Int32)).toNatClampNeg) := inb_of S441 ⟨by decide, by decide⟩
        obtain ⟨T442, h442, X442, e442, W442, st442⟩ := stC X438 hx hZ e438 Ar441 (j := (10 : Int32)) hin441 (g := (mkF m 222 #[.val (.int p0), .val (.long q1), .second, .val (.long q2), .second, .val (.long q3), .second, .val (.int (p0 &&& (7 : Int32))), .val (.int (Int32.ofNat n)), .val (.ref b397), .unset, .unset] [(.int ((((q3.toUInt64 >>> ((32 : Int32) &&& 0x3f).toInt64.toUInt64).toInt64).toInt32).toUInt32.toUInt16.toUInt32.toInt32)), (.int (10 : Int32)), (.ref b397)])) rfl rfl (hb hby at_222)
        have z443 := W442.size
        have N442 := Fr.snoc X442 N438 (by omega : h0.size ≤ b397)
        have KC444 : Keep h0 h442 [] := KC440.wr W442 (Or.inr (by omega))
        have V442 : Arv Z h442 b397 k397 .char (12 : Int32) [(.int (nar .char ((q1.toInt32).toUInt32.toUInt16.toUInt32.toInt32))), (.int (nar .char ((((q1.toUInt64 >>> ((16 : Int32) &&& 0x3f).toInt64.toUInt64).toInt64).toInt32).toUInt32.toUInt16.toUInt32.toInt32))), (.int (nar .char ((((q1.toUInt64 >>> ((32 : Int32) &&& 0x3f).toInt64.toUInt64).toInt64).toInt32).toUInt32.toUInt16.toUInt32.toInt32))), (.int (nar .char ((((q1.toUInt64 >>> ((48 : Int32) &&& 0x3f).toInt64.toUInt64).toInt64).toInt32).toUInt32.toUInt16.toUInt32.toInt32))), (.int (nar .char ((q2.toInt32).toUInt32.toUInt16.toUInt32.toInt32))), (.int (nar .char ((((q2.toUInt64 >>> ((16 : Int32) &&& 0x3f).toInt64.toUInt64).toInt64).toInt32).toUInt32.toUInt16.toUInt32.toInt32))), (.int (nar .char ((((q2.toUInt64 >>> ((32 : Int32) &&& 0x3f).toInt64.toUInt64).toInt64).toInt32).toUInt32.toUInt16.toUInt32.toInt32))), (.int (nar .char ((((q2.toUInt64 >>> ((48 : Int32) &&& 0x3f).toInt64.toUInt64).toInt64).toInt32).toUInt32.toUInt16.toUInt32.toInt32))), (.int (nar .char ((q3.toInt32).toUInt32.toUInt16.toUInt32.toInt32))), (.int (nar .char ((((q3.toUInt64 >>> ((16 : Int32) &&& 0x3f).toInt64.toUInt64).toInt64).toInt32).toUInt32.toUInt16.toUInt32.toInt32))), (.int (nar .char ((((q3.toUInt64 >>> ((32 : Int32) &&& 0x3f).toInt64.toUInt64).toInt64).toInt32).toUInt32.toUInt16.toUInt32.toInt32))), (.int (0 : Int32))] (.int (0 : Int32)) := Arv.set Ar441 q441 S441 N441' H441 G441 (fits_nar_char _) W442 10 rfl (Nat.le_of_ble_eq_true rfl)
        obtain ⟨cl445, Ar445, q445, S445, N445', H445, G445⟩ := id V442
        have hin445 : ¬ ((11 : Int32) < 0 ∨ cl445.slots.size ≤ ((11 : Int32)).toNatClampNeg) := inb_of S445 ⟨by decide, by decide⟩
        obtain ⟨T446, h446, X446, e446, W446, st446⟩ := stC X442 hx hZ e442 Ar445 (j := (11 : Int32)) hin445 (g := (mkF m 234 #[.val (.int p0), .val (.long q1), .second, .val (.long q2), .second, .val (.long q3), .second, .val (.int (p0 &&& (7 : Int32))), .val (.int (Int32.ofNat n)), .val (.ref b397), .unset, .unset] [(.int ((((q3.toUInt64 >>> ((48 : Int32) &&& 0x3f).toInt64.toUInt64).toInt64).toInt32).toUInt32.toUInt16.toUInt32.toInt32)), (.int (11 : Int32)), (.ref b397)])) rfl rfl (hb hby at_234)
        have z447 := W446.size
        have N446 := Fr.snoc X446 N442 (by omega : h0.size ≤ b397)
        have KC448 : Keep h0 h446 [] := KC444.wr W446 (Or.inr (by omega))
        have V446 : Arv Z h446 b397 k397 .char (12 : Int32) [(.int (nar .char ((q1.toInt32).toUInt32.toUInt16.toUInt32.toInt32))), (.int (nar .char ((((q1.toUInt64 >>> ((16 : Int32) &&& 0x3f).toInt64.toUInt64).toInt64).toInt32).toUInt32.toUInt16.toUInt32.toInt32))), (.int (nar .char ((((q1.toUInt64 >>> ((32 : Int32) &&& 0x3f).toInt64.toUInt64).toInt64).toInt32).toUInt32.toUInt16.toUInt32.toInt32))), (.int (nar .char ((((q1.toUInt64 >>> ((48 : Int32) &&& 0x3f).toInt64.toUInt64).toInt64).toInt32).toUInt32.toUInt16.toUInt32.toInt32))), (.int (nar .char ((q2.toInt32).toUInt32.toUInt16.toUInt32.toInt32))), (.int (nar .char ((((q2.toUInt64 >>> ((16 : Int32) &&& 0x3f).toInt64.toUInt64).toInt64).toInt32).toUInt32.toUInt16.toUInt32.toInt32))), (.int (nar .char ((((q2.toUInt64 >>> ((32 : Int32) &&& 0x3f).toInt64.toUInt64).toInt64).toInt32).toUInt32.toUInt16.toUInt32.toInt32))), (.int (nar .char ((((q2.toUInt64 >>> ((48 : Int32) &&& 0x3f).toInt64.toUInt64).toInt64).toInt32).toUInt32.toUInt16.toUInt32.toInt32))), (.int (nar .char ((q3.toInt32).toUInt32.toUInt16.toUInt32.toInt32))), (.int (nar .char ((((q3.toUInt64 >>> ((16 : Int32) &&& 0x3f).toInt64.toUInt64).toInt64).toInt32).toUInt32.toUInt16.toUInt32.toInt32))), (.int (nar .char ((((q3.toUInt64 >>> ((32 : Int32) &&& 0x3f).toInt64.toUInt64).toInt64).toInt32).toUInt32.toUInt16.toUInt32.toInt32))), (.int (nar .char ((((q3.toUInt64 >>> ((48 : Int32) &&& 0x3f).toInt64.toUInt64).toInt64).toInt32).toUInt32.toUInt16.toUInt32.toInt32)))] (.int (0 : Int32)) := Arv.set Ar445 q445 S445 N445' H445 G445 (fits_nar_char _) W446 11 rfl (Nat.le_of_ble_eq_true rfl)
        obtain ⟨C, hC, hCb, VC⟩ : ∃ C : List Int32, C.length = 12 ∧ own_bd C ∧ Arv Z h446 b397 k397 .char (12 : Int32) (C.map Value.int) (.int (0 : Int32)) := by
          refine ⟨[(nar .char ((q1.toInt32).toUInt32.toUInt16.toUInt32.toInt32)), (nar .char ((((q1.toUInt64 >>> ((16 : Int32) &&& 0x3f).toInt64.toUInt64).toInt64).toInt32).toUInt32.toUInt16.toUInt32.toInt32)), (nar .char ((((q1.toUInt64 >>> ((32 : Int32) &&& 0x3f).toInt64.toUInt64).toInt64).toInt32).toUInt32.toUInt16.toUInt32.toInt32)), (nar .char ((((q1.toUInt64 >>> ((48 : Int32) &&& 0x3f).toInt64.toUInt64).toInt64).toInt32).toUInt32.toUInt16.toUInt32.toInt32)), (nar .char ((q2.toInt32).toUInt32.toUInt16.toUInt32.toInt32)), (nar .char ((((q2.toUInt64 >>> ((16 : Int32) &&& 0x3f).toInt64.toUInt64).toInt64).toInt32).toUInt32.toUInt16.toUInt32.toInt32)), (nar .char ((((q2.toUInt64 >>> ((32 : Int32) &&& 0x3f).toInt64.toUInt64).toInt64).toInt32).toUInt32.toUInt16.toUInt32.toInt32)), (nar .char ((((q2.toUInt64 >>> ((48 : Int32) &&& 0x3f).toInt64.toUInt64).toInt64).toInt32).toUInt32.toUInt16.toUInt32.toInt32)), (nar .char ((q3.toInt32).toUInt32.toUInt16.toUInt32.toInt32)), (nar .char ((((q3.toUInt64 >>> ((16 : Int32) &&& 0x3f).toInt64.toUInt64).toInt64).toInt32).toUInt32.toUInt16.toUInt32.toInt32)), (nar .char ((((q3.toUInt64 >>> ((32 : Int32) &&& 0x3f).toInt64.toUInt64).toInt64).toInt32).toUInt32.toUInt16.toUInt32.toInt32)), (nar .char ((((q3.toUInt64 >>> ((48 : Int32) &&& 0x3f).toInt64.toUInt64).toInt64).toInt32).toUInt32.toUInt16.toUInt32.toInt32))], rfl, ?_, V446⟩
          intro c hc
          simp only [List.mem_cons, List.not_mem_nil, or_false] at hc
          rcases hc with rfl | rfl | rfl | rfl | rfl | rfl | rfl | rfl | rfl | rfl | rfl | rfl <;> exact own_cb _
        obtain ⟨T449, h449, k449, X449, e449, E449, A449, st449⟩ := newP X446 hx hZ (hw _ (List.mem_of_getElem? (i := 1) rfl)) e446 (g := (mkF m 237 #[.val (.int p0), .val (.long q1), .second, .val (.long q2), .second, .val (.long q3), .second, .val (.int (p0 &&& (7 : Int32))), .val (.int (Int32.ofNat n)), .val (.ref b397), .unset, .unset] [(.int (Int32.ofNat n))])) rfl (hb hby at_237) rfl (fun k => by rw [Int32.lt_iff_toInt_lt, own_nat (by omega)] at k; have e0 : (0 : Int32).toInt = 0 := rfl; omega) (cap := 12) (by rw [own_tn (by omega)]; omega) (by decide) (by decide) (by decide)
        obtain ⟨b449, g449⟩ : ∃ z, z = h446.size := ⟨_, rfl⟩
        rw [← g449] at A449 st449
        have z450 := E449.1
        have KC451 : Keep h0 h449 [] := KC448.ext E449
        have V449 : Arv Z h449 b449 k449 .char (Int32.ofNat n) (List.replicate n (Value.int (0 : Int32))) (.int (0 : Int32)) := (Arv.new A449 (fun k => by rw [Int32.lt_iff_toInt_lt, own_nat (by omega)] at k; have e0 : (0 : Int32).toInt = 0 := rfl; omega)).pad (pad_rep [] (.int (0 : Int32)) (n))
        have z452 : @LT.lt Nat _ b449 (Array.size h449) := V449.lt
        have Vc0 := V449
        rw [← own_cp0 C] at Vc0
        have pre453 : ∀ t, Steps p.tables e below (T449.setTop (mkF m 241 #[.val (.int p0), .val (.long q1), .second, .val (.long q2), .second, .val (.long q3), .second, .val (.int (p0 &&& (7 : Int32))), .val (.int (Int32.ofNat n)), .val (.ref b397), .val (.ref b449), .unset] [])) t → Steps p.tables e below (s₁.setTop (entryFrame m #[(.int p0), (.long q1), (.long q2), (.long q3)] maxLocals)) t := fun t k => by
          refine pre396 _ ?_
          show Steps p.tables e below (s₁.setTop (mkF m 108 #[.val (.int p0), .val (.long q1), .second, .val (.long q2), .second, .val (.long q3), .second, .val (.int (p0 &&& (7 : Int32))), .val (.int (Int32.ofNat n)), .unset, .unset, .unset] [])) _
          refine XS.bipush X0.here hx rfl (hb hby at_108) ?_
          show Steps p.tables e below (s₁.setTop (mkF m 110 #[.val (.int p0), .val (.long q1), .second, .val (.long q2), .second, .val (.long q3), .second, .val (.int (p0 &&& (7 : Int32))), .val (.int (Int32.ofNat n)), .unset, .unset, .unset] [(.int (12 : Int32))])) _
          refine st397 _ ?_
          show Steps p.tables e below (T397.setTop (mkF m 112 #[.val (.int p0), .val (.long q1), .second, .val (.long q2), .second, .val (.long q3), .second, .val (.int (p0 &&& (7 : Int32))), .val (.int (Int32.ofNat n)), .unset, .unset, .unset] [(.ref b397)])) _
          refine XS.astore X397.here hx rfl (hb hby at_112) rfl rfl (l' := #[.val (.int p0), .val (.long q1), .second, .val (.long q2), .second, .val (.long q3), .second, .val (.int (p0 &&& (7 : Int32))), .val (.int (Int32.ofNat n)), .val (.ref b397), .unset, .unset]) rfl ?_
          show Steps p.tables e below (T397.setTop (mkF m 114 #[.val (.int p0), .val (.long q1), .second, .val (.long q2), .second, .val (.long q3), .second, .val (.int (p0 &&& (7 : Int32))), .val (.int (Int32.ofNat n)), .val (.ref b397), .unset, .unset] [])) _
          refine XS.aload X397.here hx rfl (hb hby at_114) rfl rfl ?_
          show Steps p.tables e below (T397.setTop (mkF m 116 #[.val (.int p0), .val (.long q1), .second, .val (.long q2), .second, .val (.long q3), .second, .val (.int (p0 &&& (7 : Int32))), .val (.int (Int32.ofNat n)), .val (.ref b397), .unset, .unset] [(.ref b397)])) _
          refine XS.iconst X397.here hx rfl (hb hby at_116) ?_
          show Steps p.tables e below (T397.setTop (mkF m 117 #[.val (.int p0), .val (.long q1), .second, .val (.long q2), .second, .val (.long q3), .second, .val (.int (p0 &&& (7 : Int32))), .val (.int (Int32.ofNat n)), .val (.ref b397), .unset, .unset] [(.int (0 : Int32)), (.ref b397)])) _
          refine XS.lloadN X397.here hx rfl (hb hby at_117) rfl ?_
          show Steps p.tables e below (T397.setTop (mkF m 118 #[.val (.int p0), .val (.long q1), .second, .val (.long q2), .second, .val (.long q3), .second, .val (.int (p0 &&& (7 : Int32))), .val (.int (Int32.ofNat n)), .val (.ref b397), .unset, .unset] [(.long q1), (.int (0 : Int32)), (.ref b397)])) _
          refine XS.l2i X397.here hx rfl (hb hby at_118) rfl ?_
          show Steps p.tables e below (T397.setTop (mkF m 119 #[.val (.int p0), .val (.long q1), .second, .val (.long q2), .second, .val (.long q3), .second, .val (.int (p0 &&& (7 : Int32))), .val (.int (Int32.ofNat n)), .val (.ref b397), .unset, .unset] [(.int (q1.toInt32)), (.int (0 : Int32)), (.ref b397)])) _
          refine XS.i2c X397.here hx rfl (hb hby at_119) rfl ?_
          show Steps p.tables e below (T397.setTop (mkF m 120 #[.val (.int p0), .val (.long q1), .second, .val (.long q2), .second, .val (.long q3), .second, .val (.int (p0 &&& (7 : Int32))), .val (.int (Int32.ofNat n)), .val (.ref b397), .unset, .unset] [(.int ((q1.toInt32).toUInt32.toUInt16.toUInt32.toInt32)), (.int (0 : Int32)), (.ref b397)])) _
          refine st402 _ ?_
          show Steps p.tables e below (T402.setTop (mkF m 121 #[.val (.int p0), .val (.long q1), .second, .val (.long q2), .second, .val (.long q3), .second, .val (.int (p0 &&& (7 : Int32))), .val (.int (Int32.ofNat n)), .val (.ref b397), .unset, .unset] [])) _
          refine XS.aload X402.here hx rfl (hb hby at_121) rfl rfl ?_
          show Steps p.tables e below (T402.setTop (mkF m 123 #[.val (.int p0), .val (.long q1), .second, .val (.long q2), .second, .val (.long q3), .second, .val (.int (p0 &&& (7 : Int32))), .val (.int (Int32.ofNat n)), .val (.ref b397), .unset, .unset] [(.ref b397)])) _
          refine XS.iconst X402.here hx rfl (hb hby at_123) ?_
          show Steps p.tables e below (T402.setTop (mkF m 124 #[.val (.int p0), .val (.long q1), .second, .val (.long q2), .second, .val (.long q3), .second, .val (.int (p0 &&& (7 : Int32))), .val (.int (Int32.ofNat n)), .val (.ref b397), .unset, .unset] [(.int (1 : Int32)), (.ref b397)])) _
          refine XS.lloadN X402.here hx rfl (hb hby at_124) rfl ?_
          show Steps p.tables e below (T402.setTop (mkF m 125 #[.val (.int p0), .val (.long q1), .second, .val (.long q2), .second, .val (.long q3), .second, .val (.int (p0 &&& (7 : Int32))), .val (.int (Int32.ofNat n)), .val (.ref b397), .unset, .unset] [(.long q1), (.int (1 : Int32)), (.ref b397)])) _
          refine XS.bipush X402.here hx rfl (hb hby at_125) ?_
          show Steps p.tables e below (T402.setTop (mkF m 127 #[.val (.int p0), .val (.long q1), .second, .val (.long q2), .second, .val (.long q3), .second, .val (.int (p0 &&& (7 : Int32))), .val (.int (Int32.ofNat n)), .val (.ref b397), .unset, .unset] [(.int (16 : Int32)), (.long q1), (.int (1 : Int32)), (.ref b397)])) _
          refine XS.lushr X402.here hx rfl (hb hby at_127) rfl ?_
          show Steps p.tables e below (T402.setTop (mkF m 128 #[.val (.int p0), .val (.long q1), .second, .val (.long q2), .second, .val (.long q3), .second, .val (.int (p0 &&& (7 : Int32))), .val (.int (Int32.ofNat n)), .val (.ref b397), .unset, .unset] [(.long ((q1.toUInt64 >>> ((16 : Int32) &&& 0x3f).toInt64.toUInt64).toInt64)), (.int (1 : Int32)), (.ref b397)])) _
          refine XS.l2i X402.here hx rfl (hb hby at_128) rfl ?_
          show Steps p.tables e below (T402.setTop (mkF m 129 #[.val (.int p0), .val (.long q1), .second, .val (.long q2), .second, .val (.long q3), .second, .val (.int (p0 &&& (7 : Int32))), .val (.int (Int32.ofNat n)), .val (.ref b397), .unset, .unset] [(.int (((q1.toUInt64 >>> ((16 : Int32) &&& 0x3f).toInt64.toUInt64).toInt64).toInt32)), (.int (1 : Int32)), (.ref b397)])) _
          refine XS.i2c X402.here hx rfl (hb hby at_129) rfl ?_
          show Steps p.tables e below (T402.setTop (mkF m 130 #[.val (.int p0), .val (.long q1), .second, .val (.long q2), .second, .val (.long q3), .second, .val (.int (p0 &&& (7 : Int32))), .val (.int (Int32.ofNat n)), .val (.ref b397), .unset, .unset] [(.int ((((q1.toUInt64 >>> ((16 : Int32) &&& 0x3f).toInt64.toUInt64).toInt64).toInt32).toUInt32.toUInt16.toUInt32.toInt32)), (.int (1 : Int32)), (.ref b397)])) _
          refine st406 _ ?_
          show Steps p.tables e below (T406.setTop (mkF m 131 #[.val (.int p0), .val (.long q1), .second, .val (.long q2), .second, .val (.long q3), .second, .val (.int (p0 &&& (7 : Int32))), .val (.int (Int32.ofNat n)), .val (.ref b397), .unset, .unset] [])) _
          refine XS.aload X406.here hx rfl (hb hby at_131) rfl rfl ?_
          show Steps p.tables e below (T406.setTop (mkF m 133 #[.val (.int p0), .val (.long q1), .second, .val (.long q2), .second, .val (.long q3), .second, .val (.int (p0 &&& (7 : Int32))), .val (.int (Int32.ofNat n)), .val (.ref b397), .unset, .unset] [(.ref b397)])) _
          refine XS.iconst X406.here hx rfl (hb hby at_133) ?_
          show Steps p.tables e below (T406.setTop (mkF m 134 #[.val (.int p0), .val (.long q1), .second, .val (.long q2), .second, .val (.long q3), .second, .val (.int (p0 &&& (7 : Int32))), .val (.int (Int32.ofNat n)), .val (.ref b397), .unset, .unset] [(.int (2 : Int32)), (.ref b397)])) _
          refine XS.lloadN X406.here hx rfl (hb hby at_134) rfl ?_
          show Steps p.tables e below (T406.setTop (mkF m 135 #[.val (.int p0), .val (.long q1), .second, .val (.long q2), .second, .val (.long q3), .second, .val (.int (p0 &&& (7 : Int32))), .val (.int (Int32.ofNat n)), .val (.ref b397), .unset, .unset] [(.long q1), (.int (2 : Int32)), (.ref b397)])) _
          refine XS.bipush X406.here hx rfl (hb hby at_135) ?_
          show Steps p.tables e below (T406.setTop (mkF m 137 #[.val (.int p0), .val (.long q1), .second, .val (.long q2), .second, .val (.long q3), .second, .val (.int (p0 &&& (7 : Int32))), .val (.int (Int32.ofNat n)), .val (.ref b397), .unset, .unset] [(.int (32 : Int32)), (.long q1), (.int (2 : Int32)), (.ref b397)])) _
          refine XS.lushr X406.here hx rfl (hb hby at_137) rfl ?_
          show Steps p.tables e below (T406.setTop (mkF m 138 #[.val (.int p0), .val (.long q1), .second, .val (.long q2), .second, .val (.long q3), .second, .val (.int (p0 &&& (7 : Int32))), .val (.int (Int32.ofNat n)), .val (.ref b397), .unset, .unset] [(.long ((q1.toUInt64 >>> ((32 : Int32) &&& 0x3f).toInt64.toUInt64).toInt64)), (.int (2 : Int32)), (.ref b397)])) _
          refine XS.l2i X406.here hx rfl (hb hby at_138) rfl ?_
          show Steps p.tables e below (T406.setTop (mkF m 139 #[.val (.int p0), .val (.long q1), .second, .val (.long q2), .second, .val (.long q3), .second, .val (.int (p0 &&& (7 : Int32))), .val (.int (Int32.ofNat n)), .val (.ref b397), .unset, .unset] [(.int (((q1.toUInt64 >>> ((32 : Int32) &&& 0x3f).toInt64.toUInt64).toInt64).toInt32)), (.int (2 : Int32)), (.ref b397)])) _
          refine XS.i2c X406.here hx rfl (hb hby at_139) rfl ?_
          show Steps p.tables e below (T406.setTop (mkF m 140 #[.val (.int p0), .val (.long q1), .second, .val (.long q2), .second, .val (.long q3), .second, .val (.int (p0 &&& (7 : Int32))), .val (.int (Int32.ofNat n)), .val (.ref b397), .unset, .unset] [(.int ((((q1.toUInt64 >>> ((32 : Int32) &&& 0x3f).toInt64.toUInt64).toInt64).toInt32).toUInt32.toUInt16.toUInt32.toInt32)), (.int (2 : Int32)), (.ref b397)])) _
          refine st410 _ ?_
          show Steps p.tables e below (T410.setTop (mkF m 141 #[.val (.int p0), .val (.long q1), .second, .val (.long q2), .second, .val (.long q3), .second, .val (.int (p0 &&& (7 : Int32))), .val (.int (Int32.ofNat n)), .val (.ref b397), .unset, .unset] [])) _
          refine XS.aload X410.here hx rfl (hb hby at_141) rfl rfl ?_
          show Steps p.tables e below (T410.setTop (mkF m 143 #[.val (.int p0), .val (.long q1), .second, .val (.long q2), .second, .val (.long q3), .second, .val (.int (p0 &&& (7 : Int32))), .val (.int (Int32.ofNat n)), .val (.ref b397), .unset, .unset] [(.ref b397)])) _
          refine XS.iconst X410.here hx rfl (hb hby at_143) ?_
          show Steps p.tables e below (T410.setTop (mkF m 144 #[.val (.int p0), .val (.long q1), .second, .val (.long q2), .second, .val (.long q3), .second, .val (.int (p0 &&& (7 : Int32))), .val (.int (Int32.ofNat n)), .val (.ref b397), .unset, .unset] [(.int (3 : Int32)), (.ref b397)])) _
          refine XS.lloadN X410.here hx rfl (hb hby at_144) rfl ?_
          show Steps p.tables e below (T410.setTop (mkF m 145 #[.val (.int p0), .val (.long q1), .second, .val (.long q2), .second, .val (.long q3), .second, .val (.int (p0 &&& (7 : Int32))), .val (.int (Int32.ofNat n)), .val (.ref b397), .unset, .unset] [(.long q1), (.int (3 : Int32)), (.ref b397)])) _
          refine XS.bipush X410.here hx rfl (hb hby at_145) ?_
          show Steps p.tables e below (T410.setTop (mkF m 147 #[.val (.int p0), .val (.long q1), .second, .val (.long q2), .second, .val (.long q3), .second, .val (.int (p0 &&& (7 : Int32))), .val (.int (Int32.ofNat n)), .val (.ref b397), .unset, .unset] [(.int (48 : Int32)), (.long q1), (.int (3 : Int32)), (.ref b397)])) _
          refine XS.lushr X410.here hx rfl (hb hby at_147) rfl ?_
          show Steps p.tables e below (T410.setTop (mkF m 148 #[.val (.int p0), .val (.long q1), .second, .val (.long q2), .second, .val (.long q3), .second, .val (.int (p0 &&& (7 : Int32))), .val (.int (Int32.ofNat n)), .val (.ref b397), .unset, .unset] [(.long ((q1.toUInt64 >>> ((48 : Int32) &&& 0x3f).toInt64.toUInt64).toInt64)), (.int (3 : Int32)), (.ref b397)])) _
          refine XS.l2i X410.here hx rfl (hb hby at_148) rfl ?_
          show Steps p.tables e below (T410.setTop (mkF m 149 #[.val (.int p0), .val (.long q1), .second, .val (.long q2), .second, .val (.long q3), .second, .val (.int (p0 &&& (7 : Int32))), .val (.int (Int32.ofNat n)), .val (.ref b397), .unset, .unset] [(.int (((q1.toUInt64 >>> ((48 : Int32) &&& 0x3f).toInt64.toUInt64).toInt64).toInt32)), (.int (3 : Int32)), (.ref b397)])) _
          refine XS.i2c X410.here hx rfl (hb hby at_149) rfl ?_
          show Steps p.tables e below (T410.setTop (mkF m 150 #[.val (.int p0), .val (.long q1), .second, .val (.long q2), .second, .val (.long q3), .second, .val (.int (p0 &&& (7 : Int32))), .val (.int (Int32.ofNat n)), .val (.ref b397), .unset, .unset] [(.int ((((q1.toUInt64 >>> ((48 : Int32) &&& 0x3f).toInt64.toUInt64).toInt64).toInt32).toUInt32.toUInt16.toUInt32.toInt32)), (.int (3 : Int32)), (.ref b397)])) _
          refine st414 _ ?_
          show Steps p.tables e below (T414.setTop (mkF m 151 #[.val (.int p0), .val (.long q1), .second, .val (.long q2), .second, .val (.long q3), .second, .val (.int (p0 &&& (7 : Int32))), .val (.int (Int32.ofNat n)), .val (.ref b397), .unset, .unset] [])) _
          refine XS.aload X414.here hx rfl (hb hby at_151) rfl rfl ?_
          show Steps p.tables e below (T414.setTop (mkF m 153 #[.val (.int p0), .val (.long q1), .second, .val (.long q2), .second, .val (.long q3), .second, .val (.int (p0 &&& (7 : Int32))), .val (.int (Int32.ofNat n)), .val (.ref b397), .unset, .unset] [(.ref b397)])) _
          refine XS.iconst X414.here hx rfl (hb hby at_153) ?_
          show Steps p.tables e below (T414.setTop (mkF m 154 #[.val (.int p0), .val (.long q1), .second, .val (.long q2), .second, .val (.long q3), .second, .val (.int (p0 &&& (7 : Int32))), .val (.int (Int32.ofNat n)), .val (.ref b397), .unset, .unset] [(.int (4 : Int32)), (.ref b397)])) _
          refine XS.lloadN X414.here hx rfl (hb hby at_154) rfl ?_
          show Steps p.tables e below (T414.setTop (mkF m 155 #[.val (.int p0), .val (.long q1), .second, .val (.long q2), .second, .val (.long q3), .second, .val (.int (p0 &&& (7 : Int32))), .val (.int (Int32.ofNat n)), .val (.ref b397), .unset, .unset] [(.long q2), (.int (4 : Int32)), (.ref b397)])) _
          refine XS.l2i X414.here hx rfl (hb hby at_155) rfl ?_
          show Steps p.tables e below (T414.setTop (mkF m 156 #[.val (.int p0), .val (.long q1), .second, .val (.long q2), .second, .val (.long q3), .second, .val (.int (p0 &&& (7 : Int32))), .val (.int (Int32.ofNat n)), .val (.ref b397), .unset, .unset] [(.int (q2.toInt32)), (.int (4 : Int32)), (.ref b397)])) _
          refine XS.i2c X414.here hx rfl (hb hby at_156) rfl ?_
          show Steps p.tables e below (T414.setTop (mkF m 157 #[.val (.int p0), .val (.long q1), .second, .val (.long q2), .second, .val (.long q3), .second, .val (.int (p0 &&& (7 : Int32))), .val (.int (Int32.ofNat n)), .val (.ref b397), .unset, .unset] [(.int ((q2.toInt32).toUInt32.toUInt16.toUInt32.toInt32)), (.int (4 : Int32)), (.ref b397)])) _
          refine st418 _ ?_
          show Steps p.tables e below (T418.setTop (mkF m 158 #[.val (.int p0), .val (.long q1), .second, .val (.long q2), .second, .val (.long q3), .second, .val (.int (p0 &&& (7 : Int32))), .val (.int (Int32.ofNat n)), .val (.ref b397), .unset, .unset] [])) _
          refine XS.aload X418.here hx rfl (hb hby at_158) rfl rfl ?_
          show Steps p.tables e below (T418.setTop (mkF m 160 #[.val (.int p0), .val (.long q1), .second, .val (.long q2), .second, .val (.long q3), .second, .val (.int (p0 &&& (7 : Int32))), .val (.int (Int32.ofNat n)), .val (.ref b397), .unset, .unset] [(.ref b397)])) _
          refine XS.iconst X418.here hx rfl (hb hby at_160) ?_
          show Steps p.tables e below (T418.setTop (mkF m 161 #[.val (.int p0), .val (.long q1), .second, .val (.long q2), .second, .val (.long q3), .second, .val (.int (p0 &&& (7 : Int32))), .val (.int (Int32.ofNat n)), .val (.ref b397), .unset, .unset] [(.int (5 : Int32)), (.ref b397)])) _
          refine XS.lloadN X418.here hx rfl (hb hby at_161) rfl ?_
          show Steps p.tables e below (T418.setTop (mkF m 162 #[.val (.int p0), .val (.long q1), .second, .val (.long q2), .second, .val (.long q3), .second, .val (.int (p0 &&& (7 : Int32))), .val (.int (Int32.ofNat n)), .val (.ref b397), .unset, .unset] [(.long q2), (.int (5 : Int32)), (.ref b397)])) _
          refine XS.bipush X418.here hx rfl (hb hby at_162) ?_
          show Steps p.tables e below (T418.setTop (mkF m 164 #[.val (.int p0), .val (.long q1), .second, .val (.long q2), .second, .val (.long q3), .second, .val (.int (p0 &&& (7 : Int32))), .val (.int (Int32.ofNat n)), .val (.ref b397), .unset, .unset] [(.int (16 : Int32)), (.long q2), (.int (5 : Int32)), (.ref b397)])) _
          refine XS.lushr X418.here hx rfl (hb hby at_164) rfl ?_
          show Steps p.tables e below (T418.setTop (mkF m 165 #[.val (.int p0), .val (.long q1), .second, .val (.long q2), .second, .val (.long q3), .second, .val (.int (p0 &&& (7 : Int32))), .val (.int (Int32.ofNat n)), .val (.ref b397), .unset, .unset] [(.long ((q2.toUInt64 >>> ((16 : Int32) &&& 0x3f).toInt64.toUInt64).toInt64)), (.int (5 : Int32)), (.ref b397)])) _
          refine XS.l2i X418.here hx rfl (hb hby at_165) rfl ?_
          show Steps p.tables e below (T418.setTop (mkF m 166 #[.val (.int p0), .val (.long q1), .second, .val (.long q2), .second, .val (.long q3), .second, .val (.int (p0 &&& (7 : Int32))), .val (.int (Int32.ofNat n)), .val (.ref b397), .unset, .unset] [(.int (((q2.toUInt64 >>> ((16 : Int32) &&& 0x3f).toInt64.toUInt64).toInt64).toInt32)), (.int (5 : Int32)), (.ref b397)])) _
          refine XS.i2c X418.here hx rfl (hb hby at_166) rfl ?_
          show Steps p.tables e below (T418.setTop (mkF m 167 #[.val (.int p0), .val (.long q1), .second, .val (.long q2), .second, .val (.long q3), .second, .val (.int (p0 &&& (7 : Int32))), .val (.int (Int32.ofNat n)), .val (.ref b397), .unset, .unset] [(.int ((((q2.toUInt64 >>> ((16 : Int32) &&& 0x3f).toInt64.toUInt64).toInt64).toInt32).toUInt32.toUInt16.toUInt32.toInt32)), (.int (5 : Int32)), (.ref b397)])) _
          refine st422 _ ?_
          show Steps p.tables e below (T422.setTop (mkF m 168 #[.val (.int p0), .val (.long q1), .second, .val (.long q2), .second, .val (.long q3), .second, .val (.int (p0 &&& (7 : Int32))), .val (.int (Int32.ofNat n)), .val (.ref b397), .unset, .unset] [])) _
          refine XS.aload X422.here hx rfl (hb hby at_168) rfl rfl ?_
          show Steps p.tables e below (T422.setTop (mkF m 170 #[.val (.int p0), .val (.long q1), .second, .val (.long q2), .second, .val (.long q3), .second, .val (.int (p0 &&& (7 : Int32))), .val (.int (Int32.ofNat n)), .val (.ref b397), .unset, .unset] [(.ref b397)])) _
          refine XS.bipush X422.here hx rfl (hb hby at_170) ?_
          show Steps p.tables e below (T422.setTop (mkF m 172 #[.val (.int p0), .val (.long q1), .second, .val (.long q2), .second, .val (.long q3), .second, .val (.int (p0 &&& (7 : Int32))), .val (.int (Int32.ofNat n)), .val (.ref b397), .unset, .unset] [(.int (6 : Int32)), (.ref b397)])) _
          refine XS.lloadN X422.here hx rfl (hb hby at_172) rfl ?_
          show Steps p.tables e below (T422.setTop (mkF m 173 #[.val (.int p0), .val (.long q1), .second, .val (.long q2), .second, .val (.long q3), .second, .val (.int (p0 &&& (7 : Int32))), .val (.int (Int32.ofNat n)), .val (.ref b397), .unset, .unset] [(.long q2), (.int (6 : Int32)), (.ref b397)])) _
          refine XS.bipush X422.here hx rfl (hb hby at_173) ?_
          show Steps p.tables e below (T422.setTop (mkF m 175 #[.val (.int p0), .val (.long q1), .second, .val (.long q2), .second, .val (.long q3), .second, .val (.int (p0 &&& (7 : Int32))), .val (.int (Int32.ofNat n)), .val (.ref b397), .unset, .unset] [(.int (32 : Int32)), (.long q2), (.int (6 : Int32)), (.ref b397)])) _
          refine XS.lushr X422.here hx rfl (hb hby at_175) rfl ?_
          show Steps p.tables e below (T422.setTop (mkF m 176 #[.val (.int p0), .val (.long q1), .second, .val (.long q2), .second, .val (.long q3), .second, .val (.int (p0 &&& (7 : Int32))), .val (.int (Int32.ofNat n)), .val (.ref b397), .unset, .unset] [(.long ((q2.toUInt64 >>> ((32 : Int32) &&& 0x3f).toInt64.toUInt64).toInt64)), (.int (6 : Int32)), (.ref b397)])) _
          refine XS.l2i X422.here hx rfl (hb hby at_176) rfl ?_
          show Steps p.tables e below (T422.setTop (mkF m 177 #[.val (.int p0), .val (.long q1), .second, .val (.long q2), .second, .val (.long q3), .second, .val (.int (p0 &&& (7 : Int32))), .val (.int (Int32.ofNat n)), .val (.ref b397), .unset, .unset] [(.int (((q2.toUInt64 >>> ((32 : Int32) &&& 0x3f).toInt64.toUInt64).toInt64).toInt32)), (.int (6 : Int32)), (.ref b397)])) _
          refine XS.i2c X422.here hx rfl (hb hby at_177) rfl ?_
          show Steps p.tables e below (T422.setTop (mkF m 178 #[.val (.int p0), .val (.long q1), .second, .val (.long q2), .second, .val (.long q3), .second, .val (.int (p0 &&& (7 : Int32))), .val (.int (Int32.ofNat n)), .val (.ref b397), .unset, .unset] [(.int ((((q2.toUInt64 >>> ((32 : Int32) &&& 0x3f).toInt64.toUInt64).toInt64).toInt32).toUInt32.toUInt16.toUInt32.toInt32)), (.int (6 : Int32)), (.ref b397)])) _
          refine st426 _ ?_
          show Steps p.tables e below (T426.setTop (mkF m 179 #[.val (.int p0), .val (.long q1), .second, .val (.long q2), .second, .val (.long q3), .second, .val (.int (p0 &&& (7 : Int32))), .val (.int (Int32.ofNat n)), .val (.ref b397), .unset, .unset] [])) _
          refine XS.aload X426.here hx rfl (hb hby at_179) rfl rfl ?_
          show Steps p.tables e below (T426.setTop (mkF m 181 #[.val (.int p0), .val (.long q1), .second, .val (.long q2), .second, .val (.long q3), .second, .val (.int (p0 &&& (7 : Int32))), .val (.int (Int32.ofNat n)), .val (.ref b397), .unset, .unset] [(.ref b397)])) _
          refine XS.bipush X426.here hx rfl (hb hby at_181) ?_
          show Steps p.tables e below (T426.setTop (mkF m 183 #[.val (.int p0), .val (.long q1), .second, .val (.long q2), .second, .val (.long q3), .second, .val (.int (p0 &&& (7 : Int32))), .val (.int (Int32.ofNat n)), .val (.ref b397), .unset, .unset] [(.int (7 : Int32)), (.ref b397)])) _
          refine XS.lloadN X426.here hx rfl (hb hby at_183) rfl ?_
          show Steps p.tables e below (T426.setTop (mkF m 184 #[.val (.int p0), .val (.long q1), .second, .val (.long q2), .second, .val (.long q3), .second, .val (.int (p0 &&& (7 : Int32))), .val (.int (Int32.ofNat n)), .val (.ref b397), .unset, .unset] [(.long q2), (.int (7 : Int32)), (.ref b397)])) _
          refine XS.bipush X426.here hx rfl (hb hby at_184) ?_
          show Steps p.tables e below (T426.setTop (mkF m 186 #[.val (.int p0), .val (.long q1), .second, .val (.long q2), .second, .val (.long q3), .second, .val (.int (p0 &&& (7 : Int32))), .val (.int (Int32.ofNat n)), .val (.ref b397), .unset, .unset] [(.int (48 : Int32)), (.long q2), (.int (7 : Int32)), (.ref b397)])) _
          refine XS.lushr X426.here hx rfl (hb hby at_186) rfl ?_
          show Steps p.tables e below (T426.setTop (mkF m 187 #[.val (.int p0), .val (.long q1), .second, .val (.long q2), .second, .val (.long q3), .second, .val (.int (p0 &&& (7 : Int32))), .val (.int (Int32.ofNat n)), .val (.ref b397), .unset, .unset] [(.long ((q2.toUInt64 >>> ((48 : Int32) &&& 0x3f).toInt64.toUInt64).toInt64)), (.int (7 : Int32)), (.ref b397)])) _
          refine XS.l2i X426.here hx rfl (hb hby at_187) rfl ?_
          show Steps p.tables e below (T426.setTop (mkF m 188 #[.val (.int p0), .val (.long q1), .second, .val (.long q2), .second, .val (.long q3), .second, .val (.int (p0 &&& (7 : Int32))), .val (.int (Int32.ofNat n)), .val (.ref b397), .unset, .unset] [(.int (((q2.toUInt64 >>> ((48 : Int32) &&& 0x3f).toInt64.toUInt64).toInt64).toInt32)), (.int (7 : Int32)), (.ref b397)])) _
          refine XS.i2c X426.here hx rfl (hb hby at_188) rfl ?_
          show Steps p.tables e below (T426.setTop (mkF m 189 #[.val (.int p0), .val (.long q1), .second, .val (.long q2), .second, .val (.long q3), .second, .val (.int (p0 &&& (7 : Int32))), .val (.int (Int32.ofNat n)), .val (.ref b397), .unset, .unset] [(.int ((((q2.toUInt64 >>> ((48 : Int32) &&& 0x3f).toInt64.toUInt64).toInt64).toInt32).toUInt32.toUInt16.toUInt32.toInt32)), (.int (7 : Int32)), (.ref b397)])) _
          refine st430 _ ?_
          show Steps p.tables e below (T430.setTop (mkF m 190 #[.val (.int p0), .val (.long q1), .second, .val (.long q2), .second, .val (.long q3), .second, .val (.int (p0 &&& (7 : Int32))), .val (.int (Int32.ofNat n)), .val (.ref b397), .unset, .unset] [])) _
          refine XS.aload X430.here hx rfl (hb hby at_190) rfl rfl ?_
          show Steps p.tables e below (T430.setTop (mkF m 192 #[.val (.int p0), .val (.long q1), .second, .val (.long q2), .second, .val (.long q3), .second, .val (.int (p0 &&& (7 : Int32))), .val (.int (Int32.ofNat n)), .val (.ref b397), .unset, .unset] [(.ref b397)])) _
          refine XS.bipush X430.here hx rfl (hb hby at_192) ?_
          show Steps p.tables e below (T430.setTop (mkF m 194 #[.val (.int p0), .val (.long q1), .second, .val (.long q2), .second, .val (.long q3), .second, .val (.int (p0 &&& (7 : Int32))), .val (.int (Int32.ofNat n)), .val (.ref b397), .unset, .unset] [(.int (8 : Int32)), (.ref b397)])) _
          refine XS.lload X430.here hx rfl (hb hby at_194) rfl ?_
          show Steps p.tables e below (T430.setTop (mkF m 196 #[.val (.int p0), .val (.long q1), .second, .val (.long q2), .second, .val (.long q3), .second, .val (.int (p0 &&& (7 : Int32))), .val (.int (Int32.ofNat n)), .val (.ref b397), .unset, .unset] [(.long q3), (.int (8 : Int32)), (.ref b397)])) _
          refine XS.l2i X430.here hx rfl (hb hby at_196) rfl ?_
          show Steps p.tables e below (T430.setTop (mkF m 197 #[.val (.int p0), .val (.long q1), .second, .val (.long q2), .second, .val (.long q3), .second, .val (.int (p0 &&& (7 : Int32))), .val (.int (Int32.ofNat n)), .val (.ref b397), .unset, .unset] [(.int (q3.toInt32)), (.int (8 : Int32)), (.ref b397)])) _
          refine XS.i2c X430.here hx rfl (hb hby at_197) rfl ?_
          show Steps p.tables e below (T430.setTop (mkF m 198 #[.val (.int p0), .val (.long q1), .second, .val (.long q2), .second, .val (.long q3), .second, .val (.int (p0 &&& (7 : Int32))), .val (.int (Int32.ofNat n)), .val (.ref b397), .unset, .unset] [(.int ((q3.toInt32).toUInt32.toUInt16.toUInt32.toInt32)), (.int (8 : Int32)), (.ref b397)])) _
          refine st434 _ ?_
          show Steps p.tables e below (T434.setTop (mkF m 199 #[.val (.int p0), .val (.long q1), .second, .val (.long q2), .second, .val (.long q3), .second, .val (.int (p0 &&& (7 : Int32))), .val (.int (Int32.ofNat n)), .val (.ref b397), .unset, .unset] [])) _
          refine XS.aload X434.here hx rfl (hb hby at_199) rfl rfl ?_
          show Steps p.tables e below (T434.setTop (mkF m 201 #[.val (.int p0), .val (.long q1), .second, .val (.long q2), .second, .val (.long q3), .second, .val (.int (p0 &&& (7 : Int32))), .val (.int (Int32.ofNat n)), .val (.ref b397), .unset, .unset] [(.ref b397)])) _
          refine XS.bipush X434.here hx rfl (hb hby at_201) ?_
          show Steps p.tables e below (T434.setTop (mkF m 203 #[.val (.int p0), .val (.long q1), .second, .val (.long q2), .second, .val (.long q3), .second, .val (.int (p0 &&& (7 : Int32))), .val (.int (Int32.ofNat n)), .val (.ref b397), .unset, .unset] [(.int (9 : Int32)), (.ref b397)])) _
          refine XS.lload X434.here hx rfl (hb hby at_203) rfl ?_
          show Steps p.tables e below (T434.setTop (mkF m 205 #[.val (.int p0), .val (.long q1), .second, .val (.long q2), .second, .val (.long q3), .second, .val (.int (p0 &&& (7 : Int32))), .val (.int (Int32.ofNat n)), .val (.ref b397), .unset, .unset] [(.long q3), (.int (9 : Int32)), (.ref b397)])) _
          refine XS.bipush X434.here hx rfl (hb hby at_205) ?_
          show Steps p.tables e below (T434.setTop (mkF m 207 #[.val (.int p0), .val (.long q1), .second, .val (.long q2), .second, .val (.long q3), .second, .val (.int (p0 &&& (7 : Int32))), .val (.int (Int32.ofNat n)), .val (.ref b397), .unset, .unset] [(.int (16 : Int32)), (.long q3), (.int (9 : Int32)), (.ref b397)])) _
          refine XS.lushr X434.here hx rfl (hb hby at_207) rfl ?_
          show Steps p.tables e below (T434.setTop (mkF m 208 #[.val (.int p0), .val (.long q1), .second, .val (.long q2), .second, .val (.long q3), .second, .val (.int (p0 &&& (7 : Int32))), .val (.int (Int32.ofNat n)), .val (.ref b397), .unset, .unset] [(.long ((q3.toUInt64 >>> ((16 : Int32) &&& 0x3f).toInt64.toUInt64).toInt64)), (.int (9 : Int32)), (.ref b397)])) _
          refine XS.l2i X434.here hx rfl (hb hby at_208) rfl ?_
          show Steps p.tables e below (T434.setTop (mkF m 209 #[.val (.int p0), .val (.long q1), .second, .val (.long q2), .second, .val (.long q3), .second, .val (.int (p0 &&& (7 : Int32))), .val (.int (Int32.ofNat n)), .val (.ref b397), .unset, .unset] [(.int (((q3.toUInt64 >>> ((16 : Int32) &&& 0x3f).toInt64.toUInt64).toInt64).toInt32)), (.int (9 : Int32)), (.ref b397)])) _
          refine XS.i2c X434.here hx rfl (hb hby at_209) rfl ?_
          show Steps p.tables e below (T434.setTop (mkF m 210 #[.val (.int p0), .val (.long q1), .second, .val (.long q2), .second, .val (.long q3), .second, .val (.int (p0 &&& (7 : Int32))), .val (.int (Int32.ofNat n)), .val (.ref b397), .unset, .unset] [(.int ((((q3.toUInt64 >>> ((16 : Int32) &&& 0x3f).toInt64.toUInt64).toInt64).toInt32).toUInt32.toUInt16.toUInt32.toInt32)), (.int (9 : Int32)), (.ref b397)])) _
          refine st438 _ ?_
          show Steps p.tables e below (T438.setTop (mkF m 211 #[.val (.int p0), .val (.long q1), .second, .val (.long q2), .second, .val (.long q3), .second, .val (.int (p0 &&& (7 : Int32))), .val (.int (Int32.ofNat n)), .val (.ref b397), .unset, .unset] [])) _
          refine XS.aload X438.here hx rfl (hb hby at_211) rfl rfl ?_
          show Steps p.tables e below (T438.setTop (mkF m 213 #[.val (.int p0), .val (.long q1), .second, .val (.long q2), .second, .val (.long q3), .second, .val (.int (p0 &&& (7 : Int32))), .val (.int (Int32.ofNat n)), .val (.ref b397), .unset, .unset] [(.ref b397)])) _
          refine XS.bipush X438.here hx rfl (hb hby at_213) ?_
          show Steps p.tables e below (T438.setTop (mkF m 215 #[.val (.int p0), .val (.long q1), .second, .val (.long q2), .second, .val (.long q3), .second, .val (.int (p0 &&& (7 : Int32))), .val (.int (Int32.ofNat n)), .val (.ref b397), .unset, .unset] [(.int (10 : Int32)), (.ref b397)])) _
          refine XS.lload X438.here hx rfl (hb hby at_215) rfl ?_
          show Steps p.tables e below (T438.setTop (mkF m 217 #[.val (.int p0), .val (.long q1), .second, .val (.long q2), .second, .val (.long q3), .second, .val (.int (p0 &&& (7 : Int32))), .val (.int (Int32.ofNat n)), .val (.ref b397), .unset, .unset] [(.long q3), (.int (10 : Int32)), (.ref b397)])) _
          refine XS.bipush X438.here hx rfl (hb hby at_217) ?_
          show Steps p.tables e below (T438.setTop (mkF m 219 #[.val (.int p0), .val (.long q1), .second, .val (.long q2), .second, .val (.long q3), .second, .val (.int (p0 &&& (7 : Int32))), .val (.int (Int32.ofNat n)), .val (.ref b397), .unset, .unset] [(.int (32 : Int32)), (.long q3), (.int (10 : Int32)), (.ref b397)])) _
          refine XS.lushr X438.here hx rfl (hb hby at_219) rfl ?_
          show Steps p.tables e below (T438.setTop (mkF m 220 #[.val (.int p0), .val (.long q1), .second, .val (.long q2), .second, .val (.long q3), .second, .val (.int (p0 &&& (7 : Int32))), .val (.int (Int32.ofNat n)), .val (.ref b397), .unset, .unset] [(.long ((q3.toUInt64 >>> ((32 : Int32) &&& 0x3f).toInt64.toUInt64).toInt64)), (.int (10 : Int32)), (.ref b397)])) _
          refine XS.l2i X438.here hx rfl (hb hby at_220) rfl ?_
          show Steps p.tables e below (T438.setTop (mkF m 221 #[.val (.int p0), .val (.long q1), .second, .val (.long q2), .second, .val (.long q3), .second, .val (.int (p0 &&& (7 : Int32))), .val (.int (Int32.ofNat n)), .val (.ref b397), .unset, .unset] [(.int (((q3.toUInt64 >>> ((32 : Int32) &&& 0x3f).toInt64.toUInt64).toInt64).toInt32)), (.int (10 : Int32)), (.ref b397)])) _
          refine XS.i2c X438.here hx rfl (hb hby at_221) rfl ?_
          show Steps p.tables e below (T438.setTop (mkF m 222 #[.val (.int p0), .val (.long q1), .second, .val (.long q2), .second, .val (.long q3), .second, .val (.int (p0 &&& (7 : Int32))), .val (.int (Int32.ofNat n)), .val (.ref b397), .unset, .unset] [(.int ((((q3.toUInt64 >>> ((32 : Int32) &&& 0x3f).toInt64.toUInt64).toInt64).toInt32).toUInt32.toUInt16.toUInt32.toInt32)), (.int (10 : Int32)), (.ref b397)])) _
          refine st442 _ ?_
          show Steps p.tables e below (T442.setTop (mkF m 223 #[.val (.int p0), .val (.long q1), .second, .val (.long q2), .second, .val (.long q3), .second, .val (.int (p0 &&& (7 : Int32))), .val (.int (Int32.ofNat n)), .val (.ref b397), .unset, .unset] [])) _
          refine XS.aload X442.here hx rfl (hb hby at_223) rfl rfl ?_
          show Steps p.tables e below (T442.setTop (mkF m 225 #[.val (.int p0), .val (.long q1), .second, .val (.long q2), .second, .val (.long q3), .second, .val (.int (p0 &&& (7 : Int32))), .val (.int (Int32.ofNat n)), .val (.ref b397), .unset, .unset] [(.ref b397)])) _
          refine XS.bipush X442.here hx rfl (hb hby at_225) ?_
          show Steps p.tables e below (T442.setTop (mkF m 227 #[.val (.int p0), .val (.long q1), .second, .val (.long q2), .second, .val (.long q3), .second, .val (.int (p0 &&& (7 : Int32))), .val (.int (Int32.ofNat n)), .val (.ref b397), .unset, .unset] [(.int (11 : Int32)), (.ref b397)])) _
          refine XS.lload X442.here hx rfl (hb hby at_227) rfl ?_
          show Steps p.tables e below (T442.setTop (mkF m 229 #[.val (.int p0), .val (.long q1), .second, .val (.long q2), .second, .val (.long q3), .second, .val (.int (p0 &&& (7 : Int32))), .val (.int (Int32.ofNat n)), .val (.ref b397), .unset, .unset] [(.long q3), (.int (11 : Int32)), (.ref b397)])) _
          refine XS.bipush X442.here hx rfl (hb hby at_229) ?_
          show Steps p.tables e below (T442.setTop (mkF m 231 #[.val (.int p0), .val (.long q1), .second, .val (.long q2), .second, .val (.long q3), .second, .val (.int (p0 &&& (7 : Int32))), .val (.int (Int32.ofNat n)), .val (.ref b397), .unset, .unset] [(.int (48 : Int32)), (.long q3), (.int (11 : Int32)), (.ref b397)])) _
          refine XS.lushr X442.here hx rfl (hb hby at_231) rfl ?_
          show Steps p.tables e below (T442.setTop (mkF m 232 #[.val (.int p0), .val (.long q1), .second, .val (.long q2), .second, .val (.long q3), .second, .val (.int (p0 &&& (7 : Int32))), .val (.int (Int32.ofNat n)), .val (.ref b397), .unset, .unset] [(.long ((q3.toUInt64 >>> ((48 : Int32) &&& 0x3f).toInt64.toUInt64).toInt64)), (.int (11 : Int32)), (.ref b397)])) _
          refine XS.l2i X442.here hx rfl (hb hby at_232) rfl ?_
          show Steps p.tables e below (T442.setTop (mkF m 233 #[.val (.int p0), .val (.long q1), .second, .val (.long q2), .second, .val (.long q3), .second, .val (.int (p0 &&& (7 : Int32))), .val (.int (Int32.ofNat n)), .val (.ref b397), .unset, .unset] [(.int (((q3.toUInt64 >>> ((48 : Int32) &&& 0x3f).toInt64.toUInt64).toInt64).toInt32)), (.int (11 : Int32)), (.ref b397)])) _
          refine XS.i2c X442.here hx rfl (hb hby at_233) rfl ?_
          show Steps p.tables e below (T442.setTop (mkF m 234 #[.val (.int p0), .val (.long q1), .second, .val (.long q2), .second, .val (.long q3), .second, .val (.int (p0 &&& (7 : Int32))), .val (.int (Int32.ofNat n)), .val (.ref b397), .unset, .unset] [(.int ((((q3.toUInt64 >>> ((48 : Int32) &&& 0x3f).toInt64.toUInt64).toInt64).toInt32).toUInt32.toUInt16.toUInt32.toInt32)), (.int (11 : Int32)), (.ref b397)])) _
          refine st446 _ ?_
          show Steps p.tables e below (T446.setTop (mkF m 235 #[.val (.int p0), .val (.long q1), .second, .val (.long q2), .second, .val (.long q3), .second, .val (.int (p0 &&& (7 : Int32))), .val (.int (Int32.ofNat n)), .val (.ref b397), .unset, .unset] [])) _
          refine XS.iload X446.here hx rfl (hb hby at_235) rfl ?_
          show Steps p.tables e below (T446.setTop (mkF m 237 #[.val (.int p0), .val (.long q1), .second, .val (.long q2), .second, .val (.long q3), .second, .val (.int (p0 &&& (7 : Int32))), .val (.int (Int32.ofNat n)), .val (.ref b397), .unset, .unset] [(.int (Int32.ofNat n))])) _
          refine st449 _ ?_
          show Steps p.tables e below (T449.setTop (mkF m 239 #[.val (.int p0), .val (.long q1), .second, .val (.long q2), .second, .val (.long q3), .second, .val (.int (p0 &&& (7 : Int32))), .val (.int (Int32.ofNat n)), .val (.ref b397), .unset, .unset] [(.ref b449)])) _
          refine XS.astore X449.here hx rfl (hb hby at_239) rfl rfl (l' := #[.val (.int p0), .val (.long q1), .second, .val (.long q2), .second, .val (.long q3), .second, .val (.int (p0 &&& (7 : Int32))), .val (.int (Int32.ofNat n)), .val (.ref b397), .val (.ref b449), .unset]) rfl ?_
          exact k
        have bk454 : ∃ (T' : State) (L' : List Loc) (h' : Heap), Stand p l e room_1 s m #[(.int p0), (.long q1), (.long q2), (.long q3)] below meth c T' L' 2 24 ∧ T'.heap = h' ∧ Fr h0.size L' ∧ Keep h0 h' [] ∧ @LE.le Nat _ (Array.size h449) (Array.size h') ∧ (Sta Z h' "java/lang/StringUTF16" "$assertionsDisabled" "Z" (.int (1 : Int32))) ∧ (Sta Z h' "java/lang/StringUTF16" "HI_BYTE_SHIFT" "I" (.int (0 : Int32))) ∧ (Sta Z h' "java/lang/StringUTF16" "LO_BYTE_SHIFT" "I" (.int (8 : Int32))) ∧ (Sta Z h' "java/lang/String" "COMPACT_STRINGS" "Z" (.int G1)) ∧ (Sta Z h' "jdk/internal/util/Preconditions" "SIOOBE_FORMATTER" "Ljava/util/function/BiFunction;" fm) ∧ (Arv Z h' b397 k397 .char (12 : Int32) (C.map Value.int) (.int (0 : Int32))) ∧ (Arv Z h' b449 k449 .char (Int32.ofNat n) (own_cp C n 1) (.int (0 : Int32))) ∧ (∀ t, Steps p.tables e below (T'.setTop (mkF m 254 #[.val (.int p0), .val (.long q1), .second, .val (.long q2), .second, .val (.long q3), .second, .val (.int (p0 &&& (7 : Int32))), .val (.int (Int32.ofNat n)), .val (.ref b397), .val (.ref b449), .unset] [])) t → Steps p.tables e below (T449.setTop (mkF m 241 #[.val (.int p0), .val (.long q1), .second, .val (.long q2), .second, .val (.long q3), .second, .val (.int (p0 &&& (7 : Int32))), .val (.int (Int32.ofNat n)), .val (.ref b397), .val (.ref b449), .unset] [])) t) := by
          have pre455 : ∀ t, Steps p.tables e below (T449.setTop (mkF m 241 #[.val (.int p0), .val (.long q1), .second, .val (.long q2), .second, .val (.long q3), .second, .val (.int (p0 &&& (7 : Int32))), .val (.int (Int32.ofNat n)), .val (.ref b397), .val (.ref b449), .unset] [])) t → Steps p.tables e below (T449.setTop (mkF m 241 #[.val (.int p0), .val (.long q1), .second, .val (.long q2), .second, .val (.long q3), .second, .val (.int (p0 &&& (7 : Int32))), .val (.int (Int32.ofNat n)), .val (.ref b397), .val (.ref b449), .unset] [])) t := fun t k => k
          have pre456 : ∀ t, Steps p.tables e below (T449.setTop (mkF m 243 #[.val (.int p0), .val (.long q1), .second, .val (.long q2), .second, .val (.long q3), .second, .val (.int (p0 &&& (7 : Int32))), .val (.int (Int32.ofNat n)), .val (.ref b397), .val (.ref b449), .unset] [(.int (Int32.ofNat n))])) t → Steps p.tables e below (T449.setTop (mkF m 241 #[.val (.int p0), .val (.long q1), .second, .val (.long q2), .second, .val (.long q3), .second, .val (.int (p0 &&& (7 : Int32))), .val (.int (Int32.ofNat n)), .val (.ref b397), .val (.ref b449), .unset] [])) t := fun t k => by
            refine pre455 _ ?_
            show Steps p.tables e below (T449.setTop (mkF m 241 #[.val (.int p0), .val (.long q1), .second, .val (.long q2), .second, .val (.long q3), .second, .val (.int (p0 &&& (7 : Int32))), .val (.int (Int32.ofNat n)), .val (.ref b397), .val (.ref b449), .unset] [])) _
            refine XS.iload X449.here hx rfl (hb hby at_241) rfl ?_
            exact k
          by_cases hc457 : (0 : Int32) < (Int32.ofNat n)
          · have Fc458 := (VC.ext E449)
            obtain ⟨cl459, Ar459, q459, S459, N459', H459, G459⟩ := id Fc458
            have jk : 0 < n := (own_ltn (a := 0) (by omega) (by omega)).mp hc457
            have hin459 : ¬ ((0 : Int32) < 0 ∨ cl459.slots.size ≤ ((0 : Int32)).toNatClampNeg) := inb_of S459 (by decide)
            have hat459 : cl459.slots[((0 : Int32)).toNatClampNeg]? = some (.int (C.getD 0 0)) := H459.at hin459 (by rw [show (0 : Int32).toNatClampNeg = 0 from rfl]; simp [List.getD_eq_getElem?_getD, show 0 < C.length from by omega])
            obtain ⟨cl460, Ar460, q460, S460, N460', H460, G460⟩ := id Vc0
            have hin460 : ¬ ((0 : Int32) < 0 ∨ cl460.slots.size ≤ ((0 : Int32)).toNatClampNeg) := inb_of S460 (own_in (a := 0) (by omega) (by omega))
            obtain ⟨T461, h461, X461, e461, W461, st461⟩ := stC X449 hx hZ e449 Ar460 (j := (0 : Int32)) hin460 (g := (mkF m 253 #[.val (.int p0), .val (.long q1), .second, .val (.long q2), .second, .val (.long q3), .second, .val (.int (p0 &&& (7 : Int32))), .val (.int (Int32.ofNat n)), .val (.ref b397), .val (.ref b449), .unset] [(.int (C.getD 0 0)), (.int (0 : Int32)), (.ref b449)])) rfl rfl (hb hby at_253)
            have z462 := W461.size
            have N461 := Fr.snoc X461 N446 (by omega : h0.size ≤ b449)
            have KC463 : Keep h0 h461 [] := KC451.wr W461 (Or.inr (by omega))
            have V461 : Arv Z h461 b449 k449 .char (Int32.ofNat n) (List.set (own_cp C n 0) (0) (.int (nar .char (C.getD 0 0)))) (.int (0 : Int32)) := Arv.set Ar460 q460 S460 N460' H460 G460 (fits_nar_char _) W461 (0) rfl (by rw [own_cpl C n 0 (by omega)]; exact jk)
            have pre464 : ∀ t, Steps p.tables e below (T461.setTop (mkF m 254 #[.val (.int p0), .val (.long q1), .second, .val (.long q2), .second, .val (.long q3), .second, .val (.int (p0 &&& (7 : Int32))), .val (.int (Int32.ofNat n)), .val (.ref b397), .val (.ref b449), .unset] [])) t → Steps p.tables e below (T449.setTop (mkF m 241 #[.val (.int p0), .val (.long q1), .second, .val (.long q2), .second, .val (.long q3), .second, .val (.int (p0 &&& (7 : Int32))), .val (.int (Int32.ofNat n)), .val (.ref b397), .val (.ref b449), .unset] [])) t := fun t k => by
              refine pre456 _ ?_
              show Steps p.tables e below (T449.setTop (mkF m 243 #[.val (.int p0), .val (.long q1), .second, .val (.long q2), .second, .val (.long q3), .second, .val (.int (p0 &&& (7 : Int32))), .val (.int (Int32.ofNat n)), .val (.ref b397), .val (.ref b449), .unset] [(.int (Int32.ofNat n))])) _
              refine XS.ifNo X449.here hx rfl (hb hby at_243) rfl ((if0 _ _).trans (tlt (hc457 : (0 : Int32) < (Int32.ofNat n))).2.2.2) ?_
              show Steps p.tables e below (T449.setTop (mkF m 246 #[.val (.int p0), .val (.long q1), .second, .val (.long q2), .second, .val (.long q3), .second, .val (.int (p0 &&& (7 : Int32))), .val (.int (Int32.ofNat n)), .val (.ref b397), .val (.ref b449), .unset] [])) _
              refine XS.aload X449.here hx rfl (hb hby at_246) rfl rfl ?_
              show Steps p.tables e below (T449.setTop (mkF m 248 #[.val (.int p0), .val (.long q1), .second, .val (.long q2), .second, .val (.long q3), .second, .val (.int (p0 &&& (7 : Int32))), .val (.int (Int32.ofNat n)), .val (.ref b397), .val (.ref b449), .unset] [(.ref b449)])) _
              refine XS.iconst X449.here hx rfl (hb hby at_248) ?_
              show Steps p.tables e below (T449.setTop (mkF m 249 #[.val (.int p0), .val (.long q1), .second, .val (.long q2), .second, .val (.long q3), .second, .val (.int (p0 &&& (7 : Int32))), .val (.int (Int32.ofNat n)), .val (.ref b397), .val (.ref b449), .unset] [(.int (0 : Int32)), (.ref b449)])) _
              refine XS.aload X449.here hx rfl (hb hby at_249) rfl rfl ?_
              show Steps p.tables e below (T449.setTop (mkF m 251 #[.val (.int p0), .val (.long q1), .second, .val (.long q2), .second, .val (.long q3), .second, .val (.int (p0 &&& (7 : Int32))), .val (.int (Int32.ofNat n)), .val (.ref b397), .val (.ref b449), .unset] [(.ref b397), (.int (0 : Int32)), (.ref b449)])) _
              refine XS.iconst X449.here hx rfl (hb hby at_251) ?_
              show Steps p.tables e below (T449.setTop (mkF m 252 #[.val (.int p0), .val (.long q1), .second, .val (.long q2), .second, .val (.long q3), .second, .val (.int (p0 &&& (7 : Int32))), .val (.int (Int32.ofNat n)), .val (.ref b397), .val (.ref b449), .unset] [(.int (0 : Int32)), (.ref b397), (.int (0 : Int32)), (.ref b449)])) _
              refine X449.caload hx (j := (0 : Int32)) (v := (.int (C.getD 0 0))) (by rw [e449]; exact Ar459.1) (State.isArrayOf_alike hZ.alike Ar459.2.1) Ar459.2.2 hin459 hat459 (g := (mkF m 252 #[.val (.int p0), .val (.long q1), .second, .val (.long q2), .second, .val (.long q3), .second, .val (.int (p0 &&& (7 : Int32))), .val (.int (Int32.ofNat n)), .val (.ref b397), .val (.ref b449), .unset] [(.int (0 : Int32)), (.ref b397), (.int (0 : Int32)), (.ref b449)])) rfl rfl (hb hby at_252) _ ?_
              show Steps p.tables e below (T449.setTop (mkF m 253 #[.val (.int p0), .val (.long q1), .second, .val (.long q2), .second, .val (.long q3), .second, .val (.int (p0 &&& (7 : Int32))), .val (.int (Int32.ofNat n)), .val (.ref b397), .val (.ref b449), .unset] [(.int (C.getD 0 0)), (.int (0 : Int32)), (.ref b449)])) _
              refine st461 _ ?_
              exact k
            have Vf465 := V461
            rw [own_cps C n 0 jk (by omega) hCb] at Vf465
            have Fc466 := (((((((((((((((H0.ext E397).wr W402).wr W406).wr W410).wr W414).wr W418).wr W422).wr W426).wr W430).wr W434).wr W438).wr W442).wr W446).ext E449).wr W461)
            have Fc467 := (((((((((((((((H1.ext E397).wr W402).wr W406).wr W410).wr W414).wr W418).wr W422).wr W426).wr W430).wr W434).wr W438).wr W442).wr W446).ext E449).wr W461)
            have Fc468 := (((((((((((((((H2.ext E397).wr W402).wr W406).wr W410).wr W414).wr W418).wr W422).wr W426).wr W430).wr W434).wr W438).wr W442).wr W446).ext E449).wr W461)
            have Fc469 := (((((((((((((((H3.ext E397).wr W402).wr W406).wr W410).wr W414).wr W418).wr W422).wr W426).wr W430).wr W434).wr W438).wr W442).wr W446).ext E449).wr W461)
            have Fc470 := (((((((((((((((H5.ext E397).wr W402).wr W406).wr W410).wr W414).wr W418).wr W422).wr W426).wr W430).wr W434).wr W438).wr W442).wr W446).ext E449).wr W461)
            have Fc471 := (Fc458.other W461 (by omega : @Ne Nat b397 b449))
            exact ⟨_, _, _, X461, e461, N461, KC463, (by omega), Fc466, Fc467, Fc468, Fc469, Fc470, Fc471, Vf465, fun t kt => pre464 t kt⟩
          · have pre472 : ∀ t, Steps p.tables e below (T449.setTop (mkF m 254 #[.val (.int p0), .val (.long q1), .second, .val (.long q2), .second, .val (.long q3), .second, .val (.int (p0 &&& (7 : Int32))), .val (.int (Int32.ofNat n)), .val (.ref b397), .val (.ref b449), .unset] [])) t → Steps p.tables e below (T449.setTop (mkF m 241 #[.val (.int p0), .val (.long q1), .second, .val (.long q2), .second, .val (.long q3), .second, .val (.int (p0 &&& (7 : Int32))), .val (.int (Int32.ofNat n)), .val (.ref b397), .val (.ref b449), .unset] [])) t := fun t k => by
              refine pre456 _ ?_
              show Steps p.tables e below (T449.setTop (mkF m 243 #[.val (.int p0), .val (.long q1), .second, .val (.long q2), .second, .val (.long q3), .second, .val (.int (p0 &&& (7 : Int32))), .val (.int (Int32.ofNat n)), .val (.ref b397), .val (.ref b449), .unset] [(.int (Int32.ofNat n))])) _
              refine XS.ifYes X449.here hx rfl (pc0 := 243) (pc' := 254) rfl (hb hby at_243) rfl ((if0 _ _).trans (flt (hc457 : ¬ ((0 : Int32) < (Int32.ofNat n)))).2.2.2) (by decide) (by decide) ?_
              exact k
            have Vf473 := Vc0
            rw [own_cpe C n 0 (Nat.le_of_not_lt fun q => hc457 ((own_ltn (a := 0) (by omega) (by omega)).mpr q))] at Vf473
            have Fc474 := ((((((((((((((H0.ext E397).wr W402).wr W406).wr W410).wr W414).wr W418).wr W422).wr W426).wr W430).wr W434).wr W438).wr W442).wr W446).ext E449)
            have Fc475 := ((((((((((((((H1.ext E397).wr W402).wr W406).wr W410).wr W414).wr W418).wr W422).wr W426).wr W430).wr W434).wr W438).wr W442).wr W446).ext E449)
            have Fc476 := ((((((((((((((H2.ext E397).wr W402).wr W406).wr W410).wr W414).wr W418).wr W422).wr W426).wr W430).wr W434).wr W438).wr W442).wr W446).ext E449)
            have Fc477 := ((((((((((((((H3.ext E397).wr W402).wr W406).wr W410).wr W414).wr W418).wr W422).wr W426).wr W430).wr W434).wr W438).wr W442).wr W446).ext E449)
            have Fc478 := ((((((((((((((H5.ext E397).wr W402).wr W406).wr W410).wr W414).wr W418).wr W422).wr W426).wr W430).wr W434).wr W438).wr W442).wr W446).ext E449)
            have Fc479 := (VC.ext E449)
            exact ⟨_, _, _, X449, e449, N446, KC451, (by omega), Fc474, Fc475, Fc476, Fc477, Fc478, Fc479, Vf473, fun t kt => pre472 t kt⟩
        obtain ⟨T480, L480, h480, X480, e480, N480, K480, z480, P480_0, P480_1, P480_2, P480_3, P480_4, P480_5, P480_6, st480⟩ := bk454
        have z481 : @LT.lt Nat _ b397 (Array.size h480) := P480_5.lt
        have z482 : @LT.lt Nat _ b449 (Array.size h480) := P480_6.lt
        have pre483 : ∀ t, Steps p.tables e below (T480.setTop (mkF m 254 #[.val (.int p0), .val (.long q1), .second, .val (.long q2), .second, .val (.long q3), .second, .val (.int (p0 &&& (7 : Int32))), .val (.int (Int32.ofNat n)), .val (.ref b397), .val (.ref b449), .unset] [])) t → Steps p.tables e below (s₁.setTop (entryFrame m #[(.int p0), (.long q1), (.long q2), (.long q3)] maxLocals)) t := fun t k => by
          refine pre453 _ ?_
          refine st480 _ ?_
          exact k
        have bk484 : ∃ (T' : State) (L' : List Loc) (h' : Heap), Stand p l e room_1 s m #[(.int p0), (.long q1), (.long q2), (.long q3)] below meth c T' L' 2 24 ∧ T'.heap = h' ∧ Fr h0.size L' ∧ Keep h0 h' [] ∧ @LE.le Nat _ (Array.size h480) (Array.size h') ∧ (Sta Z h' "java/lang/StringUTF16" "$assertionsDisabled" "Z" (.int (1 : Int32))) ∧ (Sta Z h' "java/lang/StringUTF16" "HI_BYTE_SHIFT" "I" (.int (0 : Int32))) ∧ (Sta Z h' "java/lang/StringUTF16" "LO_BYTE_SHIFT" "I" (.int (8 : Int32))) ∧ (Sta Z h' "java/lang/String" "COMPACT_STRINGS" "Z" (.int G1)) ∧ (Sta Z h' "jdk/internal/util/Preconditions" "SIOOBE_FORMATTER" "Ljava/util/function/BiFunction;" fm) ∧ (Arv Z h' b397 k397 .char (12 : Int32) (C.map Value.int) (.int (0 : Int32))) ∧ (Arv Z h' b449 k449 .char (Int32.ofNat n) (own_cp C n 2) (.int (0 : Int32))) ∧ (∀ t, Steps p.tables e below (T'.setTop (mkF m 268 #[.val (.int p0), .val (.long q1), .second, .val (.long q2), .second, .val (.long q3), .second, .val (.int (p0 &&& (7 : Int32))), .val (.int (Int32.ofNat n)), .val (.ref b397), .val (.ref b449), .unset] [])) t → Steps p.tables e below (T480.setTop (mkF m 254 #[.val (.int p0), .val (.long q1), .second, .val (.long q2), .second, .val (.long q3), .second, .val (.int (p0 &&& (7 : Int32))), .val (.int (Int32.ofNat n)), .val (.ref b397), .val (.ref b449), .unset] [])) t) := by
          have pre485 : ∀ t, Steps p.tables e below (T480.setTop (mkF m 254 #[.val (.int p0), .val (.long q1), .second, .val (.long q2), .second, .val (.long q3), .second, .val (.int (p0 &&& (7 : Int32))), .val (.int (Int32.ofNat n)), .val (.ref b397), .val (.ref b449), .unset] [])) t → Steps p.tables e below (T480.setTop (mkF m 254 #[.val (.int p0), .val (.long q1), .second, .val (.long q2), .second, .val (.long q3), .second, .val (.int (p0 &&& (7 : Int32))), .val (.int (Int32.ofNat n)), .val (.ref b397), .val (.ref b449), .unset] [])) t := fun t k => k
          have pre486 : ∀ t, Steps p.tables e below (T480.setTop (mkF m 257 #[.val (.int p0), .val (.long q1), .second, .val (.long q2), .second, .val (.long q3), .second, .val (.int (p0 &&& (7 : Int32))), .val (.int (Int32.ofNat n)), .val (.ref b397), .val (.ref b449), .unset] [(.int (1 : Int32)), (.int (Int32.ofNat n))])) t → Steps p.tables e below (T480.setTop (mkF m 254 #[.val (.int p0), .val (.long q1), .second, .val (.long q2), .second, .val (.long q3), .second, .val (.int (p0 &&& (7 : Int32))), .val (.int (Int32.ofNat n)), .val (.ref b397), .val (.ref b449), .unset] [])) t := fun t k => by
            refine pre485 _ ?_
            show Steps p.tables e below (T480.setTop (mkF m 254 #[.val (.int p0), .val (.long q1), .second, .val (.long q2), .second, .val (.long q3), .second, .val (.int (p0 &&& (7 : Int32))), .val (.int (Int32.ofNat n)), .val (.ref b397), .val (.ref b449), .unset] [])) _
            refine XS.iload X480.here hx rfl (hb hby at_254) rfl ?_
            show Steps p.tables e below (T480.setTop (mkF m 256 #[.val (.int p0), .val (.long q1), .second, .val (.long q2), .second, .val (.long q3), .second, .val (.int (p0 &&& (7 : Int32))), .val (.int (Int32.ofNat n)), .val (.ref b397), .val (.ref b449), .unset] [(.int (Int32.ofNat n))])) _
            refine XS.iconst X480.here hx rfl (hb hby at_256) ?_
            exact k
          by_cases hc487 : (1 : Int32) < (Int32.ofNat n)
          · obtain ⟨cl488, Ar488, q488, S488, N488', H488, G488⟩ := id P480_5
            have jk : 1 < n := (own_ltn (a := 1) (by omega) (by omega)).mp hc487
            have hin488 : ¬ ((1 : Int32) < 0 ∨ cl488.slots.size ≤ ((1 : Int32)).toNatClampNeg) := inb_of S488 (by decide)
            have hat488 : cl488.slots[((1 : Int32)).toNatClampNeg]? = some (.int (C.getD 1 0)) := H488.at hin488 (by rw [show (1 : Int32).toNatClampNeg = 1 from rfl]; simp [List.getD_eq_getElem?_getD, show 1 < C.length from by omega])
            obtain ⟨cl489, Ar489, q489, S489, N489', H489, G489⟩ := id P480_6
            have hin489 : ¬ ((1 : Int32) < 0 ∨ cl489.slots.size ≤ ((1 : Int32)).toNatClampNeg) := inb_of S489 (own_in (a := 1) (by omega) (by omega))
            obtain ⟨T490, h490, X490, e490, W490, st490⟩ := stC X480 hx hZ e480 Ar489 (j := (1 : Int32)) hin489 (g := (mkF m 267 #[.val (.int p0), .val (.long q1), .second, .val (.long q2), .second, .val (.long q3), .second, .val (.int (p0 &&& (7 : Int32))), .val (.int (Int32.ofNat n)), .val (.ref b397), .val (.ref b449), .unset] [(.int (C.getD 1 0)), (.int (1 : Int32)), (.ref b449)])) rfl rfl (hb hby at_267)
            have z491 := W490.size
            have N490 := Fr.snoc X490 N480 (by omega : h0.size ≤ b449)
            have KC492 : Keep h0 h490 [] := K480.wr W490 (Or.inr (by omega))
            have V490 : Arv Z h490 b449 k449 .char (Int32.ofNat n) (List.set (own_cp C n 1) (1) (.int (nar .char (C.getD 1 0)))) (.int (0 : Int32)) := Arv.set Ar489 q489 S489 N489' H489 G489 (fits_nar_char _) W490 (1) rfl (by rw [own_cpl C n 1 (by omega)]; exact jk)
            have pre493 : ∀ t, Steps p.tables e below (T490.setTop (mkF m 268 #[.val (.int p0), .val (.long q1), .second, .val (.long q2), .second, .val (.long q3), .second, .val (.int (p0 &&& (7 : Int32))), .val (.int (Int32.ofNat n)), .val (.ref b397), .val (.ref b449), .unset] [])) t → Steps p.tables e below (T480.setTop (mkF m 254 #[.val (.int p0), .val (.long q1), .second, .val (.long q2), .second, .val (.long q3), .second, .val (.int (p0 &&& (7 : Int32))), .val (.int (Int32.ofNat n)), .val (.ref b397), .val (.ref b449), .unset] [])) t := fun t k => by
              refine pre486 _ ?_
              show Steps p.tables e below (T480.setTop (mkF m 257 #[.val (.int p0), .val (.long q1), .second, .val (.long q2), .second, .val (.long q3), .second, .val (.int (p0 &&& (7 : Int32))), .val (.int (Int32.ofNat n)), .val (.ref b397), .val (.ref b449), .unset] [(.int (1 : Int32)), (.int (Int32.ofNat n))])) _
              refine XS.icmpNo X480.here hx rfl (hb hby at_257) rfl (tlt (hc487 : (1 : Int32) < (Int32.ofNat n))).2.2.2 ?_
              show Steps p.tables e below (T480.setTop (mkF m 260 #[.val (.int p0), .val (.long q1), .second, .val (.long q2), .second, .val (.long q3), .second, .val (.int (p0 &&& (7 : Int32))), .val (.int (Int32.ofNat n)), .val (.ref b397), .val (.ref b449), .unset] [])) _
              refine XS.aload X480.here hx rfl (hb hby at_260) rfl rfl ?_
              show Steps p.tables e below (T480.setTop (mkF m 262 #[.val (.int p0), .val (.long q1), .second, .val (.long q2), .second, .val (.long q3), .second, .val (.int (p0 &&& (7 : Int32))), .val (.int (Int32.ofNat n)), .val (.ref b397), .val (.ref b449), .unset] [(.ref b449)])) _
              refine XS.iconst X480.here hx rfl (hb hby at_262) ?_
              show Steps p.tables e below (T480.setTop (mkF m 263 #[.val (.int p0), .val (.long q1), .second, .val (.long q2), .second, .val (.long q3), .second, .val (.int (p0 &&& (7 : Int32))), .val (.int (Int32.ofNat n)), .val (.ref b397), .val (.ref b449), .unset] [(.int (1 : Int32)), (.ref b449)])) _
              refine XS.aload X480.here hx rfl (hb hby at_263) rfl rfl ?_
              show Steps p.tables e below (T480.setTop (mkF m 265 #[.val (.int p0), .val (.long q1), .second, .val (.long q2), .second, .val (.long q3), .second, .val (.int (p0 &&& (7 : Int32))), .val (.int (Int32.ofNat n)), .val (.ref b397), .val (.ref b449), .unset] [(.ref b397), (.int (1 : Int32)), (.ref b449)])) _
              refine XS.iconst X480.here hx rfl (hb hby at_265) ?_
              show Steps p.tables e below (T480.setTop (mkF m 266 #[.val (.int p0), .val (.long q1), .second, .val (.long q2), .second, .val (.long q3), .second, .val (.int (p0 &&& (7 : Int32))), .val (.int (Int32.ofNat n)), .val (.ref b397), .val (.ref b449), .unset] [(.int (1 : Int32)), (.ref b397), (.int (1 : Int32)), (.ref b449)])) _
              refine X480.caload hx (j := (1 : Int32)) (v := (.int (C.getD 1 0))) (by rw [e480]; exact Ar488.1) (State.isArrayOf_alike hZ.alike Ar488.2.1) Ar488.2.2 hin488 hat488 (g := (mkF m 266 #[.val (.int p0), .val (.long q1), .second, .val (.long q2), .second, .val (.long q3), .second, .val (.int (p0 &&& (7 : Int32))), .val (.int (Int32.ofNat n)), .val (.ref b397), .val (.ref b449), .unset] [(.int (1 : Int32)), (.ref b397), (.int (1 : Int32)), (.ref b449)])) rfl rfl (hb hby at_266) _ ?_
              show Steps p.tables e below (T480.setTop (mkF m 267 #[.val (.int p0), .val (.long q1), .second, .val (.long q2), .second, .val (.long q3), .second, .val (.int (p0 &&& (7 : Int32))), .val (.int (Int32.ofNat n)), .val (.ref b397), .val (.ref b449), .unset] [(.int (C.getD 1 0)), (.int (1 : Int32)), (.ref b449)])) _
              refine st490 _ ?_
              exact k
            have Vf494 := V490
            rw [own_cps C n 1 jk (by omega) hCb] at Vf494
            have Fc495 := (P480_0.wr W490)
            have Fc496 := (P480_1.wr W490)
            have Fc497 := (P480_2.wr W490)
            have Fc498 := (P480_3.wr W490)
            have Fc499 := (P480_4.wr W490)
            have Fc500 := (P480_5.other W490 (by omega : @Ne Nat b397 b449))
            exact ⟨_, _, _, X490, e490, N490, KC492, (by omega), Fc495, Fc496, Fc497, Fc498, Fc499, Fc500, Vf494, fun t kt => pre493 t kt⟩
          · have pre501 : ∀ t, Steps p.tables e below (T480.setTop (mkF m 268 #[.val (.int p0), .val (.long q1), .second, .val (.long q2), .second, .val (.long q3), .second, .val (.int (p0 &&& (7 : Int32))), .val (.int (Int32.ofNat n)), .val (.ref b397), .val (.ref b449), .unset] [])) t → Steps p.tables e below (T480.setTop (mkF m 254 #[.val (.int p0), .val (.long q1), .second, .val (.long q2), .second, .val (.long q3), .second, .val (.int (p0 &&& (7 : Int32))), .val (.int (Int32.ofNat n)), .val (.ref b397), .val (.ref b449), .unset] [])) t := fun t k => by
              refine pre486 _ ?_
              show Steps p.tables e below (T480.setTop (mkF m 257 #[.val (.int p0), .val (.long q1), .second, .val (.long q2), .second, .val (.long q3), .second, .val (.int (p0 &&& (7 : Int32))), .val (.int (Int32.ofNat n)), .val (.ref b397), .val (.ref b449), .unset] [(.int (1 : Int32)), (.int (Int32.ofNat n))])) _
              refine XS.icmpYes X480.here hx rfl (pc0 := 257) (pc' := 268) rfl (hb hby at_257) rfl (flt (hc487 : ¬ ((1 : Int32) < (Int32.ofNat n)))).2.2.2 (by decide) (by decide) ?_
              exact k
            have Vf502 := P480_6
            rw [own_cpe C n 1 (Nat.le_of_not_lt fun q => hc487 ((own_ltn (a := 1) (by omega) (by omega)).mpr q))] at Vf502
            exact ⟨_, _, _, X480, e480, N480, K480, (by omega), P480_0, P480_1, P480_2, P480_3, P480_4, P480_5, Vf502, fun t kt => pre501 t kt⟩
        obtain ⟨T503, L503, h503, X503, e503, N503, K503, z503, P503_0, P503_1, P503_2, P503_3, P503_4, P503_5, P503_6, st503⟩ := bk484
        have z504 : @LT.lt Nat _ b397 (Array.size h503) := P503_5.lt
        have z505 : @LT.lt Nat _ b449 (Array.size h503) := P503_6.lt
        have pre506 : ∀ t, Steps p.tables e below (T503.setTop (mkF m 268 #[.val (.int p0), .val (.long q1), .second, .val (.long q2), .second, .val (.long q3), .second, .val (.int (p0 &&& (7 : Int32))), .val (.int (Int32.ofNat n)), .val (.ref b397), .val (.ref b449), .unset] [])) t → Steps p.tables e below (s₁.setTop (entryFrame m #[(.int p0), (.long q1), (.long q2), (.long q3)] maxLocals)) t := fun t k => by
          refine pre483 _ ?_
          refine st503 _ ?_
          exact k
        have bk507 : ∃ (T' : State) (L' : List Loc) (h' : Heap), Stand p l e room_1 s m #[(.int p0), (.long q1), (.long q2), (.long q3)] below meth c T' L' 2 24 ∧ T'.heap = h' ∧ Fr h0.size L' ∧ Keep h0 h' [] ∧ @LE.le Nat _ (Array.size h503) (Array.size h') ∧ (Sta Z h' "java/lang/StringUTF16" "$assertionsDisabled" "Z" (.int (1 : Int32))) ∧ (Sta Z h' "java/lang/StringUTF16" "HI_BYTE_SHIFT" "I" (.int (0 : Int32))) ∧ (Sta Z h' "java/lang/StringUTF16" "LO_BYTE_SHIFT" "I" (.int (8 : Int32))) ∧ (Sta Z h' "java/lang/String" "COMPACT_STRINGS" "Z" (.int G1)) ∧ (Sta Z h' "jdk/internal/util/Preconditions" "SIOOBE_FORMATTER" "Ljava/util/function/BiFunction;" fm) ∧ (Arv Z h' b397 k397 .char (12 : Int32) (C.map Value.int) (.int (0 : Int32))) ∧ (Arv Z h' b449 k449 .char (Int32.ofNat n) (own_cp C n 3) (.int (0 : Int32))) ∧ (∀ t, Steps p.tables e below (T'.setTop (mkF m 282 #[.val (.int p0), .val (.long q1), .second, .val (.long q2), .second, .val (.long q3), .second, .val (.int (p0 &&& (7 : Int32))), .val (.int (Int32.ofNat n)), .val (.ref b397), .val (.ref b449), .unset] [])) t → Steps p.tables e below (T503.setTop (mkF m 268 #[.val (.int p0), .val (.long q1), .second, .val (.long q2), .second, .val (.long q3), .second, .val (.int (p0 &&& (7 : Int32))), .val (.int (Int32.ofNat n)), .val (.ref b397), .val (.ref b449), .unset] [])) t) := by
          have pre508 : ∀ t, Steps p.tables e below (T503.setTop (mkF m 268 #[.val (.int p0), .val (.long q1), .second, .val (.long q2), .second, .val (.long q3), .second, .val (.int (p0 &&& (7 : Int32))), .val (.int (Int32.ofNat n)), .val (.ref b397), .val (.ref b449), .unset] [])) t → Steps p.tables e below (T503.setTop (mkF m 268 #[.val (.int p0), .val (.long q1), .second, .val (.long q2), .second, .val (.long q3), .second, .val (.int (p0 &&& (7 : Int32))), .val (.int (Int32.ofNat n)), .val (.ref b397), .val (.ref b449), .unset] [])) t := fun t k => k
          have pre509 : ∀ t, Steps p.tables e below (T503.setTop (mkF m 271 #[.val (.int p0), .val (.long q1), .second, .val (.long q2), .second, .val (.long q3), .second, .val (.int (p0 &&& (7 : Int32))), .val (.int (Int32.ofNat n)), .val (.ref b397), .val (.ref b449), .unset] [(.int (2 : Int32)), (.int (Int32.ofNat n))])) t → Steps p.tables e below (T503.setTop (mkF m 268 #[.val (.int p0), .val (.long q1), .second, .val (.long q2), .second, .val (.long q3), .second, .val (.int (p0 &&& (7 : Int32))), .val (.int (Int32.ofNat n)), .val (.ref b397), .val (.ref b449), .unset] [])) t := fun t k => by
            refine pre508 _ ?_
            show Steps p.tables e below (T503.setTop (mkF m 268 #[.val (.int p0), .val (.long q1), .second, .val (.long q2), .second, .val (.long q3), .second, .val (.int (p0 &&& (7 : Int32))), .val (.int (Int32.ofNat n)), .val (.ref b397), .val (.ref b449), .unset] [])) _
            refine XS.iload X503.here hx rfl (hb hby at_268) rfl ?_
            show Steps p.tables e below (T503.setTop (mkF m 270 #[.val (.int p0), .val (.long q1), .second, .val (.long q2), .second, .val (.long q3), .second, .val (.int (p0 &&& (7 : Int32))), .val (.int (Int32.ofNat n)), .val (.ref b397), .val (.ref b449), .unset] [(.int (Int32.ofNat n))])) _
            refine XS.iconst X503.here hx rfl (hb hby at_270) ?_
            exact k
          by_cases hc510 : (2 : Int32) < (Int32.ofNat n)
          · obtain ⟨cl511, Ar511, q511, S511, N511', H511, G511⟩ := id P503_5
            have jk : 2 < n := (own_ltn (a := 2) (by omega) (by omega)).mp hc510
            have hin511 : ¬ ((2 : Int32) < 0 ∨ cl511.slots.size ≤ ((2 : Int32)).toNatClampNeg) := inb_of S511 (by decide)
            have hat511 : cl511.slots[((2 : Int32)).toNatClampNeg]? = some (.int (C.getD 2 0)) := H511.at hin511 (by rw [show (2 : Int32).toNatClampNeg = 2 from rfl]; simp [List.getD_eq_getElem?_getD, show 2 < C.length from by omega])
            obtain ⟨cl512, Ar512, q512, S512, N512', H512, G512⟩ := id P503_6
            have hin512 : ¬ ((2 : Int32) < 0 ∨ cl512.slots.size ≤ ((2 : Int32)).toNatClampNeg) := inb_of S512 (own_in (a := 2) (by omega) (by omega))
            obtain ⟨T513, h513, X513, e513, W513, st513⟩ := stC X503 hx hZ e503 Ar512 (j := (2 : Int32)) hin512 (g := (mkF m 281 #[.val (.int p0), .val (.long q1), .second, .val (.long q2), .second, .val (.long q3), .second, .val (.int (p0 &&& (7 : Int32))), .val (.int (Int32.ofNat n)), .val (.ref b397), .val (.ref b449), .unset] [(.int (C.getD 2 0)), (.int (2 : Int32)), (.ref b449)])) rfl rfl (hb hby at_281)
            have z514 := W513.size
            have N513 := Fr.snoc X513 N503 (by omega : h0.size ≤ b449)
            have KC515 : Keep h0 h513 [] := K503.wr W513 (Or.inr (by omega))
            have V513 : Arv Z h513 b449 k449 .char (Int32.ofNat n) (List.set (own_cp C n 2) (2) (.int (nar .char (C.getD 2 0)))) (.int (0 : Int32)) := Arv.set Ar512 q512 S512 N512' H512 G512 (fits_nar_char _) W513 (2) rfl (by rw [own_cpl C n 2 (by omega)]; exact jk)
            have pre516 : ∀ t, Steps p.tables e below (T513.setTop (mkF m 282 #[.val (.int p0), .val (.long q1), .second, .val (.long q2), .second, .val (.long q3), .second, .val (.int (p0 &&& (7 : Int32))), .val (.int (Int32.ofNat n)), .val (.ref b397), .val (.ref b449), .unset] [])) t → Steps p.tables e below (T503.setTop (mkF m 268 #[.val (.int p0), .val (.long q1), .second, .val (.long q2), .second, .val (.long q3), .second, .val (.int (p0 &&& (7 : Int32))), .val (.int (Int32.ofNat n)), .val (.ref b397), .val (.ref b449), .unset] [])) t := fun t k => by
              refine pre509 _ ?_
              show Steps p.tables e below (T503.setTop (mkF m 271 #[.val (.int p0), .val (.long q1), .second, .val (.long q2), .second, .val (.long q3), .second, .val (.int (p0 &&& (7 : Int32))), .val (.int (Int32.ofNat n)), .val (.ref b397), .val (.ref b449), .unset] [(.int (2 : Int32)), (.int (Int32.ofNat n))])) _
              refine XS.icmpNo X503.here hx rfl (hb hby at_271) rfl (tlt (hc510 : (2 : Int32) < (Int32.ofNat n))).2.2.2 ?_
              show Steps p.tables e below (T503.setTop (mkF m 274 #[.val (.int p0), .val (.long q1), .second, .val (.long q2), .second, .val (.long q3), .second, .val (.int (p0 &&& (7 : Int32))), .val (.int (Int32.ofNat n)), .val (.ref b397), .val (.ref b449), .unset] [])) _
              refine XS.aload X503.here hx rfl (hb hby at_274) rfl rfl ?_
              show Steps p.tables e below (T503.setTop (mkF m 276 #[.val (.int p0), .val (.long q1), .second, .val (.long q2), .second, .val (.long q3), .second, .val (.int (p0 &&& (7 : Int32))), .val (.int (Int32.ofNat n)), .val (.ref b397), .val (.ref b449), .unset] [(.ref b449)])) _
              refine XS.iconst X503.here hx rfl (hb hby at_276) ?_
              show Steps p.tables e below (T503.setTop (mkF m 277 #[.val (.int p0), .val (.long q1), .second, .val (.long q2), .second, .val (.long q3), .second, .val (.int (p0 &&& (7 : Int32))), .val (.int (Int32.ofNat n)), .val (.ref b397), .val (.ref b449), .unset] [(.int (2 : Int32)), (.ref b449)])) _
              refine XS.aload X503.here hx rfl (hb hby at_277) rfl rfl ?_
              show Steps p.tables e below (T503.setTop (mkF m 279 #[.val (.int p0), .val (.long q1), .second, .val (.long q2), .second, .val (.long q3), .second, .val (.int (p0 &&& (7 : Int32))), .val (.int (Int32.ofNat n)), .val (.ref b397), .val (.ref b449), .unset] [(.ref b397), (.int (2 : Int32)), (.ref b449)])) _
              refine XS.iconst X503.here hx rfl (hb hby at_279) ?_
              show Steps p.tables e below (T503.setTop (mkF m 280 #[.val (.int p0), .val (.long q1), .second, .val (.long q2), .second, .val (.long q3), .second, .val (.int (p0 &&& (7 : Int32))), .val (.int (Int32.ofNat n)), .val (.ref b397), .val (.ref b449), .unset] [(.int (2 : Int32)), (.ref b397), (.int (2 : Int32)), (.ref b449)])) _
              refine X503.caload hx (j := (2 : Int32)) (v := (.int (C.getD 2 0))) (by rw [e503]; exact Ar511.1) (State.isArrayOf_alike hZ.alike Ar511.2.1) Ar511.2.2 hin511 hat511 (g := (mkF m 280 #[.val (.int p0), .val (.long q1), .second, .val (.long q2), .second, .val (.long q3), .second, .val (.int (p0 &&& (7 : Int32))), .val (.int (Int32.ofNat n)), .val (.ref b397), .val (.ref b449), .unset] [(.int (2 : Int32)), (.ref b397), (.int (2 : Int32)), (.ref b449)])) rfl rfl (hb hby at_280) _ ?_
              show Steps p.tables e below (T503.setTop (mkF m 281 #[.val (.int p0), .val (.long q1), .second, .val (.long q2), .second, .val (.long q3), .second, .val (.int (p0 &&& (7 : Int32))), .val (.int (Int32.ofNat n)), .val (.ref b397), .val (.ref b449), .unset] [(.int (C.getD 2 0)), (.int (2 : Int32)), (.ref b449)])) _
              refine st513 _ ?_
              exact k
            have Vf517 := V513
            rw [own_cps C n 2 jk (by omega) hCb] at Vf517
            have Fc518 := (P503_0.wr W513)
            have Fc519 := (P503_1.wr W513)
            have Fc520 := (P503_2.wr W513)
            have Fc521 := (P503_3.wr W513)
            have Fc522 := (P503_4.wr W513)
            have Fc523 := (P503_5.other W513 (by omega : @Ne Nat b397 b449))
            exact ⟨_, _, _, X513, e513, N513, KC515, (by omega), Fc518, Fc519, Fc520, Fc521, Fc522, Fc523, Vf517, fun t kt => pre516 t kt⟩
          · have pre524 : ∀ t, Steps p.tables e below (T503.setTop (mkF m 282 #[.val (.int p0), .val (.long q1), .second, .val (.long q2), .second, .val (.long q3), .second, .val (.int (p0 &&& (7 : Int32))), .val (.int (Int32.ofNat n)), .val (.ref b397), .val (.ref b449), .unset] [])) t → Steps p.tables e below (T503.setTop (mkF m 268 #[.val (.int p0), .val (.long q1), .second, .val (.long q2), .second, .val (.long q3), .second, .val (.int (p0 &&& (7 : Int32))), .val (.int (Int32.ofNat n)), .val (.ref b397), .val (.ref b449), .unset] [])) t := fun t k => by
              refine pre509 _ ?_
              show Steps p.tables e below (T503.setTop (mkF m 271 #[.val (.int p0), .val (.long q1), .second, .val (.long q2), .second, .val (.long q3), .second, .val (.int (p0 &&& (7 : Int32))), .val (.int (Int32.ofNat n)), .val (.ref b397), .val (.ref b449), .unset] [(.int (2 : Int32)), (.int (Int32.ofNat n))])) _
              refine XS.icmpYes X503.here hx rfl (pc0 := 271) (pc' := 282) rfl (hb hby at_271) rfl (flt (hc510 : ¬ ((2 : Int32) < (Int32.ofNat n)))).2.2.2 (by decide) (by decide) ?_
              exact k
            have Vf525 := P503_6
            rw [own_cpe C n 2 (Nat.le_of_not_lt fun q => hc510 ((own_ltn (a := 2) (by omega) (by omega)).mpr q))] at Vf525
            exact ⟨_, _, _, X503, e503, N503, K503, (by omega), P503_0, P503_1, P503_2, P503_3, P503_4, P503_5, Vf525, fun t kt => pre524 t kt⟩
        obtain ⟨T526, L526, h526, X526, e526, N526, K526, z526, P526_0, P526_1, P526_2, P526_3, P526_4, P526_5, P526_6, st526⟩ := bk507
        have z527 : @LT.lt Nat _ b397 (Array.size h526) := P526_5.lt
        have z528 : @LT.lt Nat _ b449 (Array.size h526) := P526_6.lt
        have pre529 : ∀ t, Steps p.tables e below (T526.setTop (mkF m 282 #[.val (.int p0), .val (.long q1), .second, .val (.long q2), .second, .val (.long q3), .second, .val (.int (p0 &&& (7 : Int32))), .val (.int (Int32.ofNat n)), .val (.ref b397), .val (.ref b449), .unset] [])) t → Steps p.tables e below (s₁.setTop (entryFrame m #[(.int p0), (.long q1), (.long q2), (.long q3)] maxLocals)) t := fun t k => by
          refine pre506 _ ?_
          refine st526 _ ?_
          exact k
        have bk530 : ∃ (T' : State) (L' : List Loc) (h' : Heap), Stand p l e room_1 s m #[(.int p0), (.long q1), (.long q2), (.long q3)] below meth c T' L' 2 24 ∧ T'.heap = h' ∧ Fr h0.size L' ∧ Keep h0 h' [] ∧ @LE.le Nat _ (Array.size h526) (Array.size h') ∧ (Sta Z h' "java/lang/StringUTF16" "$assertionsDisabled" "Z" (.int (1 : Int32))) ∧ (Sta Z h' "java/lang/StringUTF16" "HI_BYTE_SHIFT" "I" (.int (0 : Int32))) ∧ (Sta Z h' "java/lang/StringUTF16" "LO_BYTE_SHIFT" "I" (.int (8 : Int32))) ∧ (Sta Z h' "java/lang/String" "COMPACT_STRINGS" "Z" (.int G1)) ∧ (Sta Z h' "jdk/internal/util/Preconditions" "SIOOBE_FORMATTER" "Ljava/util/function/BiFunction;" fm) ∧ (Arv Z h' b397 k397 .char (12 : Int32) (C.map Value.int) (.int (0 : Int32))) ∧ (Arv Z h' b449 k449 .char (Int32.ofNat n) (own_cp C n 4) (.int (0 : Int32))) ∧ (∀ t, Steps p.tables e below (T'.setTop (mkF m 296 #[.val (.int p0), .val (.long q1), .second, .val (.long q2), .second, .val (.long q3), .second, .val (.int (p0 &&& (7 : Int32))), .val (.int (Int32.ofNat n)), .val (.ref b397), .val (.ref b449), .unset] [])) t → Steps p.tables e below (T526.setTop (mkF m 282 #[.val (.int p0), .val (.long q1), .second, .val (.long q2), .second, .val (.long q3), .second, .val (.int (p0 &&& (7 : Int32))), .val (.int (Int32.ofNat n)), .val (.ref b397), .val (.ref b449), .unset] [])) t) := by
          have pre531 : ∀ t, Steps p.tables e below (T526.setTop (mkF m 282 #[.val (.int p0), .val (.long q1), .second, .val (.long q2), .second, .val (.long q3), .second, .val (.int (p0 &&& (7 : Int32))), .val (.int (Int32.ofNat n)), .val (.ref b397), .val (.ref b449), .unset] [])) t → Steps p.tables e below (T526.setTop (mkF m 282 #[.val (.int p0), .val (.long q1), .second, .val (.long q2), .second, .val (.long q3), .second, .val (.int (p0 &&& (7 : Int32))), .val (.int (Int32.ofNat n)), .val (.ref b397), .val (.ref b449), .unset] [])) t := fun t k => k
          have pre532 : ∀ t, Steps p.tables e below (T526.setTop (mkF m 285 #[.val (.int p0), .val (.long q1), .second, .val (.long q2), .second, .val (.long q3), .second, .val (.int (p0 &&& (7 : Int32))), .val (.int (Int32.ofNat n)), .val (.ref b397), .val (.ref b449), .unset] [(.int (3 : Int32)), (.int (Int32.ofNat n))])) t → Steps p.tables e below (T526.setTop (mkF m 282 #[.val (.int p0), .val (.long q1), .second, .val (.long q2), .second, .val (.long q3), .second, .val (.int (p0 &&& (7 : Int32))), .val (.int (Int32.ofNat n)), .val (.ref b397), .val (.ref b449), .unset] [])) t := fun t k => by
            refine pre531 _ ?_
            show Steps p.tables e below (T526.setTop (mkF m 282 #[.val (.int p0), .val (.long q1), .second, .val (.long q2), .second, .val (.long q3), .second, .val (.int (p0 &&& (7 : Int32))), .val (.int (Int32.ofNat n)), .val (.ref b397), .val (.ref b449), .unset] [])) _
            refine XS.iload X526.here hx rfl (hb hby at_282) rfl ?_
            show Steps p.tables e below (T526.setTop (mkF m 284 #[.val (.int p0), .val (.long q1), .second, .val (.long q2), .second, .val (.long q3), .second, .val (.int (p0 &&& (7 : Int32))), .val (.int (Int32.ofNat n)), .val (.ref b397), .val (.ref b449), .unset] [(.int (Int32.ofNat n))])) _
            refine XS.iconst X526.here hx rfl (hb hby at_284) ?_
            exact k
          by_cases hc533 : (3 : Int32) < (Int32.ofNat n)
          · obtain ⟨cl534, Ar534, q534, S534, N534', H534, G534⟩ := id P526_5
            have jk : 3 < n := (own_ltn (a := 3) (by omega) (by omega)).mp hc533
            have hin534 : ¬ ((3 : Int32) < 0 ∨ cl534.slots.size ≤ ((3 : Int32)).toNatClampNeg) := inb_of S534 (by decide)
            have hat534 : cl534.slots[((3 : Int32)).toNatClampNeg]? = some (.int (C.getD 3 0)) := H534.at hin534 (by rw [show (3 : Int32).toNatClampNeg = 3 from rfl]; simp [List.getD_eq_getElem?_getD, show 3 < C.length from by omega])
            obtain ⟨cl535, Ar535, q535, S535, N535', H535, G535⟩ := id P526_6
            have hin535 : ¬ ((3 : Int32) < 0 ∨ cl535.slots.size ≤ ((3 : Int32)).toNatClampNeg) := inb_of S535 (own_in (a := 3) (by omega) (by omega))
            obtain ⟨T536, h536, X536, e536, W536, st536⟩ := stC X526 hx hZ e526 Ar535 (j := (3 : Int32)) hin535 (g := (mkF m 295 #[.val (.int p0), .val (.long q1), .second, .val (.long q2), .second, .val (.long q3), .second, .val (.int (p0 &&& (7 : Int32))), .val (.int (Int32.ofNat n)), .val (.ref b397), .val (.ref b449), .unset] [(.int (C.getD 3 0)), (.int (3 : Int32)), (.ref b449)])) rfl rfl (hb hby at_295)
            have z537 := W536.size
            have N536 := Fr.snoc X536 N526 (by omega : h0.size ≤ b449)
            have KC538 : Keep h0 h536 [] := K526.wr W536 (Or.inr (by omega))
            have V536 : Arv Z h536 b449 k449 .char (Int32.ofNat n) (List.set (own_cp C n 3) (3) (.int (nar .char (C.getD 3 0)))) (.int (0 : Int32)) := Arv.set Ar535 q535 S535 N535' H535 G535 (fits_nar_char _) W536 (3) rfl (by rw [own_cpl C n 3 (by omega)]; exact jk)
            have pre539 : ∀ t, Steps p.tables e below (T536.setTop (mkF m 296 #[.val (.int p0), .val (.long q1), .second, .val (.long q2), .second, .val (.long q3), .second, .val (.int (p0 &&& (7 : Int32))), .val (.int (Int32.ofNat n)), .val (.ref b397), .val (.ref b449), .unset] [])) t → Steps p.tables e below (T526.setTop (mkF m 282 #[.val (.int p0), .val (.long q1), .second, .val (.long q2), .second, .val (.long q3), .second, .val (.int (p0 &&& (7 : Int32))), .val (.int (Int32.ofNat n)), .val (.ref b397), .val (.ref b449), .unset] [])) t := fun t k => by
              refine pre532 _ ?_
              show Steps p.tables e below (T526.setTop (mkF m 285 #[.val (.int p0), .val (.long q1), .second, .val (.long q2), .second, .val (.long q3), .second, .val (.int (p0 &&& (7 : Int32))), .val (.int (Int32.ofNat n)), .val (.ref b397), .val (.ref b449), .unset] [(.int (3 : Int32)), (.int (Int32.ofNat n))])) _
              refine XS.icmpNo X526.here hx rfl (hb hby at_285) rfl (tlt (hc533 : (3 : Int32) < (Int32.ofNat n))).2.2.2 ?_
              show Steps p.tables e below (T526.setTop (mkF m 288 #[.val (.int p0), .val (.long q1), .second, .val (.long q2), .second, .val (.long q3), .second, .val (.int (p0 &&& (7 : Int32))), .val (.int (Int32.ofNat n)), .val (.ref b397), .val (.ref b449), .unset] [])) _
              refine XS.aload X526.here hx rfl (hb hby at_288) rfl rfl ?_
              show Steps p.tables e below (T526.setTop (mkF m 290 #[.val (.int p0), .val (.long q1), .second, .val (.long q2), .second, .val (.long q3), .second, .val (.int (p0 &&& (7 : Int32))), .val (.int (Int32.ofNat n)), .val (.ref b397), .val (.ref b449), .unset] [(.ref b449)])) _
              refine XS.iconst X526.here hx rfl (hb hby at_290) ?_
              show Steps p.tables e below (T526.setTop (mkF m 291 #[.val (.int p0), .val (.long q1), .second, .val (.long q2), .second, .val (.long q3), .second, .val (.int (p0 &&& (7 : Int32))), .val (.int (Int32.ofNat n)), .val (.ref b397), .val (.ref b449), .unset] [(.int (3 : Int32)), (.ref b449)])) _
              refine XS.aload X526.here hx rfl (hb hby at_291) rfl rfl ?_
              show Steps p.tables e below (T526.setTop (mkF m 293 #[.val (.int p0), .val (.long q1), .second, .val (.long q2), .second, .val (.long q3), .second, .val (.int (p0 &&& (7 : Int32))), .val (.int (Int32.ofNat n)), .val (.ref b397), .val (.ref b449), .unset] [(.ref b397), (.int (3 : Int32)), (.ref b449)])) _
              refine XS.iconst X526.here hx rfl (hb hby at_293) ?_
              show Steps p.tables e below (T526.setTop (mkF m 294 #[.val (.int p0), .val (.long q1), .second, .val (.long q2), .second, .val (.long q3), .second, .val (.int (p0 &&& (7 : Int32))), .val (.int (Int32.ofNat n)), .val (.ref b397), .val (.ref b449), .unset] [(.int (3 : Int32)), (.ref b397), (.int (3 : Int32)), (.ref b449)])) _
              refine X526.caload hx (j := (3 : Int32)) (v := (.int (C.getD 3 0))) (by rw [e526]; exact Ar534.1) (State.isArrayOf_alike hZ.alike Ar534.2.1) Ar534.2.2 hin534 hat534 (g := (mkF m 294 #[.val (.int p0), .val (.long q1), .second, .val (.long q2), .second, .val (.long q3), .second, .val (.int (p0 &&& (7 : Int32))), .val (.int (Int32.ofNat n)), .val (.ref b397), .val (.ref b449), .unset] [(.int (3 : Int32)), (.ref b397), (.int (3 : Int32)), (.ref b449)])) rfl rfl (hb hby at_294) _ ?_
              show Steps p.tables e below (T526.setTop (mkF m 295 #[.val (.int p0), .val (.long q1), .second, .val (.long q2), .second, .val (.long q3), .second, .val (.int (p0 &&& (7 : Int32))), .val (.int (Int32.ofNat n)), .val (.ref b397), .val (.ref b449), .unset] [(.int (C.getD 3 0)), (.int (3 : Int32)), (.ref b449)])) _
              refine st536 _ ?_
              exact k
            have Vf540 := V536
            rw [own_cps C n 3 jk (by omega) hCb] at Vf540
            have Fc541 := (P526_0.wr W536)
            have Fc542 := (P526_1.wr W536)
            have Fc543 := (P526_2.wr W536)
            have Fc544 := (P526_3.wr W536)
            have Fc545 := (P526_4.wr W536)
            have Fc546 := (P526_5.other W536 (by omega : @Ne Nat b397 b449))
            exact ⟨_, _, _, X536, e536, N536, KC538, (by omega), Fc541, Fc542, Fc543, Fc544, Fc545, Fc546, Vf540, fun t kt => pre539 t kt⟩
          · have pre547 : ∀ t, Steps p.tables e below (T526.setTop (mkF m 296 #[.val (.int p0), .val (.long q1), .second, .val (.long q2), .second, .val (.long q3), .second, .val (.int (p0 &&& (7 : Int32))), .val (.int (Int32.ofNat n)), .val (.ref b397), .val (.ref b449), .unset] [])) t → Steps p.tables e below (T526.setTop (mkF m 282 #[.val (.int p0), .val (.long q1), .second, .val (.long q2), .second, .val (.long q3), .second, .val (.int (p0 &&& (7 : Int32))), .val (.int (Int32.ofNat n)), .val (.ref b397), .val (.ref b449), .unset] [])) t := fun t k => by
              refine pre532 _ ?_
              show Steps p.tables e below (T526.setTop (mkF m 285 #[.val (.int p0), .val (.long q1), .second, .val (.long q2), .second, .val (.long q3), .second, .val (.int (p0 &&& (7 : Int32))), .val (.int (Int32.ofNat n)), .val (.ref b397), .val (.ref b449), .unset] [(.int (3 : Int32)), (.int (Int32.ofNat n))])) _
              refine XS.icmpYes X526.here hx rfl (pc0 := 285) (pc' := 296) rfl (hb hby at_285) rfl (flt (hc533 : ¬ ((3 : Int32) < (Int32.ofNat n)))).2.2.2 (by decide) (by decide) ?_
              exact k
            have Vf548 := P526_6
            rw [own_cpe C n 3 (Nat.le_of_not_lt fun q => hc533 ((own_ltn (a := 3) (by omega) (by omega)).mpr q))] at Vf548
            exact ⟨_, _, _, X526, e526, N526, K526, (by omega), P526_0, P526_1, P526_2, P526_3, P526_4, P526_5, Vf548, fun t kt => pre547 t kt⟩
        obtain ⟨T549, L549, h549, X549, e549, N549, K549, z549, P549_0, P549_1, P549_2, P549_3, P549_4, P549_5, P549_6, st549⟩ := bk530
        have z550 : @LT.lt Nat _ b397 (Array.size h549) := P549_5.lt
        have z551 : @LT.lt Nat _ b449 (Array.size h549) := P549_6.lt
        have pre552 : ∀ t, Steps p.tables e below (T549.setTop (mkF m 296 #[.val (.int p0), .val (.long q1), .second, .val (.long q2), .second, .val (.long q3), .second, .val (.int (p0 &&& (7 : Int32))), .val (.int (Int32.ofNat n)), .val (.ref b397), .val (.ref b449), .unset] [])) t → Steps p.tables e below (s₁.setTop (entryFrame m #[(.int p0), (.long q1), (.long q2), (.long q3)] maxLocals)) t := fun t k => by
          refine pre529 _ ?_
          refine st549 _ ?_
          exact k
        have bk553 : ∃ (T' : State) (L' : List Loc) (h' : Heap), Stand p l e room_1 s m #[(.int p0), (.long q1), (.long q2), (.long q3)] below meth c T' L' 2 24 ∧ T'.heap = h' ∧ Fr h0.size L' ∧ Keep h0 h' [] ∧ @LE.le Nat _ (Array.size h549) (Array.size h') ∧ (Sta Z h' "java/lang/StringUTF16" "$assertionsDisabled" "Z" (.int (1 : Int32))) ∧ (Sta Z h' "java/lang/StringUTF16" "HI_BYTE_SHIFT" "I" (.int (0 : Int32))) ∧ (Sta Z h' "java/lang/StringUTF16" "LO_BYTE_SHIFT" "I" (.int (8 : Int32))) ∧ (Sta Z h' "java/lang/String" "COMPACT_STRINGS" "Z" (.int G1)) ∧ (Sta Z h' "jdk/internal/util/Preconditions" "SIOOBE_FORMATTER" "Ljava/util/function/BiFunction;" fm) ∧ (Arv Z h' b397 k397 .char (12 : Int32) (C.map Value.int) (.int (0 : Int32))) ∧ (Arv Z h' b449 k449 .char (Int32.ofNat n) (own_cp C n 5) (.int (0 : Int32))) ∧ (∀ t, Steps p.tables e below (T'.setTop (mkF m 310 #[.val (.int p0), .val (.long q1), .second, .val (.long q2), .second, .val (.long q3), .second, .val (.int (p0 &&& (7 : Int32))), .val (.int (Int32.ofNat n)), .val (.ref b397), .val (.ref b449), .unset] [])) t → Steps p.tables e below (T549.setTop (mkF m 296 #[.val (.int p0), .val (.long q1), .second, .val (.long q2), .second, .val (.long q3), .second, .val (.int (p0 &&& (7 : Int32))), .val (.int (Int32.ofNat n)), .val (.ref b397), .val (.ref b449), .unset] [])) t) := by
          have pre554 : ∀ t, Steps p.tables e below (T549.setTop (mkF m 296 #[.val (.int p0), .val (.long q1), .second, .val (.long q2), .second, .val (.long q3), .second, .val (.int (p0 &&& (7 : Int32))), .val (.int (Int32.ofNat n)), .val (.ref b397), .val (.ref b449), .unset] [])) t → Steps p.tables e below (T549.setTop (mkF m 296 #[.val (.int p0), .val (.long q1), .second, .val (.long q2), .second, .val (.long q3), .second, .val (.int (p0 &&& (7 : Int32))), .val (.int (Int32.ofNat n)), .val (.ref b397), .val (.ref b449), .unset] [])) t := fun t k => k
          have pre555 : ∀ t, Steps p.tables e below (T549.setTop (mkF m 299 #[.val (.int p0), .val (.long q1), .second, .val (.long q2), .second, .val (.long q3), .second, .val (.int (p0 &&& (7 : Int32))), .val (.int (Int32.ofNat n)), .val (.ref b397), .val (.ref b449), .unset] [(.int (4 : Int32)), (.int (Int32.ofNat n))])) t → Steps p.tables e below (T549.setTop (mkF m 296 #[.val (.int p0), .val (.long q1), .second, .val (.long q2), .second, .val (.long q3), .second, .val (.int (p0 &&& (7 : Int32))), .val (.int (Int32.ofNat n)), .val (.ref b397), .val (.ref b449), .unset] [])) t := fun t k => by
            refine pre554 _ ?_
            show Steps p.tables e below (T549.setTop (mkF m 296 #[.val (.int p0), .val (.long q1), .second, .val (.long q2), .second, .val (.long q3), .second, .val (.int (p0 &&& (7 : Int32))), .val (.int (Int32.ofNat n)), .val (.ref b397), .val (.ref b449), .unset] [])) _
            refine XS.iload X549.here hx rfl (hb hby at_296) rfl ?_
            show Steps p.tables e below (T549.setTop (mkF m 298 #[.val (.int p0), .val (.long q1), .second, .val (.long q2), .second, .val (.long q3), .second, .val (.int (p0 &&& (7 : Int32))), .val (.int (Int32.ofNat n)), .val (.ref b397), .val (.ref b449), .unset] [(.int (Int32.ofNat n))])) _
            refine XS.iconst X549.here hx rfl (hb hby at_298) ?_
            exact k
          by_cases hc556 : (4 : Int32) < (Int32.ofNat n)
          · obtain ⟨cl557, Ar557, q557, S557, N557', H557, G557⟩ := id P549_5
            have jk : 4 < n := (own_ltn (a := 4) (by omega) (by omega)).mp hc556
            have hin557 : ¬ ((4 : Int32) < 0 ∨ cl557.slots.size ≤ ((4 : Int32)).toNatClampNeg) := inb_of S557 (by decide)
            have hat557 : cl557.slots[((4 : Int32)).toNatClampNeg]? = some (.int (C.getD 4 0)) := H557.at hin557 (by rw [show (4 : Int32).toNatClampNeg = 4 from rfl]; simp [List.getD_eq_getElem?_getD, show 4 < C.length from by omega])
            obtain ⟨cl558, Ar558, q558, S558, N558', H558, G558⟩ := id P549_6
            have hin558 : ¬ ((4 : Int32) < 0 ∨ cl558.slots.size ≤ ((4 : Int32)).toNatClampNeg) := inb_of S558 (own_in (a := 4) (by omega) (by omega))
            obtain ⟨T559, h559, X559, e559, W559, st559⟩ := stC X549 hx hZ e549 Ar558 (j := (4 : Int32)) hin558 (g := (mkF m 309 #[.val (.int p0), .val (.long q1), .second, .val (.long q2), .second, .val (.long q3), .second, .val (.int (p0 &&& (7 : Int32))), .val (.int (Int32.ofNat n)), .val (.ref b397), .val (.ref b449), .unset] [(.int (C.getD 4 0)), (.int (4 : Int32)), (.ref b449)])) rfl rfl (hb hby at_309)
            have z560 := W559.size
            have N559 := Fr.snoc X559 N549 (by omega : h0.size ≤ b449)
            have KC561 : Keep h0 h559 [] := K549.wr W559 (Or.inr (by omega))
            have V559 : Arv Z h559 b449 k449 .char (Int32.ofNat n) (List.set (own_cp C n 4) (4) (.int (nar .char (C.getD 4 0)))) (.int (0 : Int32)) := Arv.set Ar558 q558 S558 N558' H558 G558 (fits_nar_char _) W559 (4) rfl (by rw [own_cpl C n 4 (by omega)]; exact jk)
            have pre562 : ∀ t, Steps p.tables e below (T559.setTop (mkF m 310 #[.val (.int p0), .val (.long q1), .second, .val (.long q2), .second, .val (.long q3), .second, .val (.int (p0 &&& (7 : Int32))), .val (.int (Int32.ofNat n)), .val (.ref b397), .val (.ref b449), .unset] [])) t → Steps p.tables e below (T549.setTop (mkF m 296 #[.val (.int p0), .val (.long q1), .second, .val (.long q2), .second, .val (.long q3), .second, .val (.int (p0 &&& (7 : Int32))), .val (.int (Int32.ofNat n)), .val (.ref b397), .val (.ref b449), .unset] [])) t := fun t k => by
              refine pre555 _ ?_
              show Steps p.tables e below (T549.setTop (mkF m 299 #[.val (.int p0), .val (.long q1), .second, .val (.long q2), .second, .val (.long q3), .second, .val (.int (p0 &&& (7 : Int32))), .val (.int (Int32.ofNat n)), .val (.ref b397), .val (.ref b449), .unset] [(.int (4 : Int32)), (.int (Int32.ofNat n))])) _
              refine XS.icmpNo X549.here hx rfl (hb hby at_299) rfl (tlt (hc556 : (4 : Int32) < (Int32.ofNat n))).2.2.2 ?_
              show Steps p.tables e below (T549.setTop (mkF m 302 #[.val (.int p0), .val (.long q1), .second, .val (.long q2), .second, .val (.long q3), .second, .val (.int (p0 &&& (7 : Int32))), .val (.int (Int32.ofNat n)), .val (.ref b397), .val (.ref b449), .unset] [])) _
              refine XS.aload X549.here hx rfl (hb hby at_302) rfl rfl ?_
              show Steps p.tables e below (T549.setTop (mkF m 304 #[.val (.int p0), .val (.long q1), .second, .val (.long q2), .second, .val (.long q3), .second, .val (.int (p0 &&& (7 : Int32))), .val (.int (Int32.ofNat n)), .val (.ref b397), .val (.ref b449), .unset] [(.ref b449)])) _
              refine XS.iconst X549.here hx rfl (hb hby at_304) ?_
              show Steps p.tables e below (T549.setTop (mkF m 305 #[.val (.int p0), .val (.long q1), .second, .val (.long q2), .second, .val (.long q3), .second, .val (.int (p0 &&& (7 : Int32))), .val (.int (Int32.ofNat n)), .val (.ref b397), .val (.ref b449), .unset] [(.int (4 : Int32)), (.ref b449)])) _
              refine XS.aload X549.here hx rfl (hb hby at_305) rfl rfl ?_
              show Steps p.tables e below (T549.setTop (mkF m 307 #[.val (.int p0), .val (.long q1), .second, .val (.long q2), .second, .val (.long q3), .second, .val (.int (p0 &&& (7 : Int32))), .val (.int (Int32.ofNat n)), .val (.ref b397), .val (.ref b449), .unset] [(.ref b397), (.int (4 : Int32)), (.ref b449)])) _
              refine XS.iconst X549.here hx rfl (hb hby at_307) ?_
              show Steps p.tables e below (T549.setTop (mkF m 308 #[.val (.int p0), .val (.long q1), .second, .val (.long q2), .second, .val (.long q3), .second, .val (.int (p0 &&& (7 : Int32))), .val (.int (Int32.ofNat n)), .val (.ref b397), .val (.ref b449), .unset] [(.int (4 : Int32)), (.ref b397), (.int (4 : Int32)), (.ref b449)])) _
              refine X549.caload hx (j := (4 : Int32)) (v := (.int (C.getD 4 0))) (by rw [e549]; exact Ar557.1) (State.isArrayOf_alike hZ.alike Ar557.2.1) Ar557.2.2 hin557 hat557 (g := (mkF m 308 #[.val (.int p0), .val (.long q1), .second, .val (.long q2), .second, .val (.long q3), .second, .val (.int (p0 &&& (7 : Int32))), .val (.int (Int32.ofNat n)), .val (.ref b397), .val (.ref b449), .unset] [(.int (4 : Int32)), (.ref b397), (.int (4 : Int32)), (.ref b449)])) rfl rfl (hb hby at_308) _ ?_
              show Steps p.tables e below (T549.setTop (mkF m 309 #[.val (.int p0), .val (.long q1), .second, .val (.long q2), .second, .val (.long q3), .second, .val (.int (p0 &&& (7 : Int32))), .val (.int (Int32.ofNat n)), .val (.ref b397), .val (.ref b449), .unset] [(.int (C.getD 4 0)), (.int (4 : Int32)), (.ref b449)])) _
              refine st559 _ ?_
              exact k
            have Vf563 := V559
            rw [own_cps C n 4 jk (by omega) hCb] at Vf563
            have Fc564 := (P549_0.wr W559)
            have Fc565 := (P549_1.wr W559)
            have Fc566 := (P549_2.wr W559)
            have Fc567 := (P549_3.wr W559)
            have Fc568 := (P549_4.wr W559)
            have Fc569 := (P549_5.other W559 (by omega : @Ne Nat b397 b449))
            exact ⟨_, _, _, X559, e559, N559, KC561, (by omega), Fc564, Fc565, Fc566, Fc567, Fc568, Fc569, Vf563, fun t kt => pre562 t kt⟩
          · have pre570 : ∀ t, Steps p.tables e below (T549.setTop (mkF m 310 #[.val (.int p0), .val (.long q1), .second, .val (.long q2), .second, .val (.long q3), .second, .val (.int (p0 &&& (7 : Int32))), .val (.int (Int32.ofNat n)), .val (.ref b397), .val (.ref b449), .unset] [])) t → Steps p.tables e below (T549.setTop (mkF m 296 #[.val (.int p0), .val (.long q1), .second, .val (.long q2), .second, .val (.long q3), .second, .val (.int (p0 &&& (7 : Int32))), .val (.int (Int32.ofNat n)), .val (.ref b397), .val (.ref b449), .unset] [])) t := fun t k => by
              refine pre555 _ ?_
              show Steps p.tables e below (T549.setTop (mkF m 299 #[.val (.int p0), .val (.long q1), .second, .val (.long q2), .second, .val (.long q3), .second, .val (.int (p0 &&& (7 : Int32))), .val (.int (Int32.ofNat n)), .val (.ref b397), .val (.ref b449), .unset] [(.int (4 : Int32)), (.int (Int32.ofNat n))])) _
              refine XS.icmpYes X549.here hx rfl (pc0 := 299) (pc' := 310) rfl (hb hby at_299) rfl (flt (hc556 : ¬ ((4 : Int32) < (Int32.ofNat n)))).2.2.2 (by decide) (by decide) ?_
              exact k
            have Vf571 := P549_6
            rw [own_cpe C n 4 (Nat.le_of_not_lt fun q => hc556 ((own_ltn (a := 4) (by omega) (by omega)).mpr q))] at Vf571
            exact ⟨_, _, _, X549, e549, N549, K549, (by omega), P549_0, P549_1, P549_2, P549_3, P549_4, P549_5, Vf571, fun t kt => pre570 t kt⟩
        obtain ⟨T572, L572, h572, X572, e572, N572, K572, z572, P572_0, P572_1, P572_2, P572_3, P572_4, P572_5, P572_6, st572⟩ := bk553
        have z573 : @LT.lt Nat _ b397 (Array.size h572) := P572_5.lt
        have z574 : @LT.lt Nat _ b449 (Array.size h572) := P572_6.lt
        have pre575 : ∀ t, Steps p.tables e below (T572.setTop (mkF m 310 #[.val (.int p0), .val (.long q1), .second, .val (.long q2), .second, .val (.long q3), .second, .val (.int (p0 &&& (7 : Int32))), .val (.int (Int32.ofNat n)), .val (.ref b397), .val (.ref b449), .unset] [])) t → Steps p.tables e below (s₁.setTop (entryFrame m #[(.int p0), (.long q1), (.long q2), (.long q3)] maxLocals)) t := fun t k => by
          refine pre552 _ ?_
          refine st572 _ ?_
          exact k
        have bk576 : ∃ (T' : State) (L' : List Loc) (h' : Heap), Stand p l e room_1 s m #[(.int p0), (.long q1), (.long q2), (.long q3)] below meth c T' L' 2 24 ∧ T'.heap = h' ∧ Fr h0.size L' ∧ Keep h0 h' [] ∧ @LE.le Nat _ (Array.size h572) (Array.size h') ∧ (Sta Z h' "java/lang/StringUTF16" "$assertionsDisabled" "Z" (.int (1 : Int32))) ∧ (Sta Z h' "java/lang/StringUTF16" "HI_BYTE_SHIFT" "I" (.int (0 : Int32))) ∧ (Sta Z h' "java/lang/StringUTF16" "LO_BYTE_SHIFT" "I" (.int (8 : Int32))) ∧ (Sta Z h' "java/lang/String" "COMPACT_STRINGS" "Z" (.int G1)) ∧ (Sta Z h' "jdk/internal/util/Preconditions" "SIOOBE_FORMATTER" "Ljava/util/function/BiFunction;" fm) ∧ (Arv Z h' b397 k397 .char (12 : Int32) (C.map Value.int) (.int (0 : Int32))) ∧ (Arv Z h' b449 k449 .char (Int32.ofNat n) (own_cp C n 6) (.int (0 : Int32))) ∧ (∀ t, Steps p.tables e below (T'.setTop (mkF m 324 #[.val (.int p0), .val (.long q1), .second, .val (.long q2), .second, .val (.long q3), .second, .val (.int (p0 &&& (7 : Int32))), .val (.int (Int32.ofNat n)), .val (.ref b397), .val (.ref b449), .unset] [])) t → Steps p.tables e below (T572.setTop (mkF m 310 #[.val (.int p0), .val (.long q1), .second, .val (.long q2), .second, .val (.long q3), .second, .val (.int (p0 &&& (7 : Int32))), .val (.int (Int32.ofNat n)), .val (.ref b397), .val (.ref b449), .unset] [])) t) := by
          have pre577 : ∀ t, Steps p.tables e below (T572.setTop (mkF m 310 #[.val (.int p0), .val (.long q1), .second, .val (.long q2), .second, .val (.long q3), .second, .val (.int (p0 &&& (7 : Int32))), .val (.int (Int32.ofNat n)), .val (.ref b397), .val (.ref b449), .unset] [])) t → Steps p.tables e below (T572.setTop (mkF m 310 #[.val (.int p0), .val (.long q1), .second, .val (.long q2), .second, .val (.long q3), .second, .val (.int (p0 &&& (7 : Int32))), .val (.int (Int32.ofNat n)), .val (.ref b397), .val (.ref b449), .unset] [])) t := fun t k => k
          have pre578 : ∀ t, Steps p.tables e below (T572.setTop (mkF m 313 #[.val (.int p0), .val (.long q1), .second, .val (.long q2), .second, .val (.long q3), .second, .val (.int (p0 &&& (7 : Int32))), .val (.int (Int32.ofNat n)), .val (.ref b397), .val (.ref b449), .unset] [(.int (5 : Int32)), (.int (Int32.ofNat n))])) t → Steps p.tables e below (T572.setTop (mkF m 310 #[.val (.int p0), .val (.long q1), .second, .val (.long q2), .second, .val (.long q3), .second, .val (.int (p0 &&& (7 : Int32))), .val (.int (Int32.ofNat n)), .val (.ref b397), .val (.ref b449), .unset] [])) t := fun t k => by
            refine pre577 _ ?_
            show Steps p.tables e below (T572.setTop (mkF m 310 #[.val (.int p0), .val (.long q1), .second, .val (.long q2), .second, .val (.long q3), .second, .val (.int (p0 &&& (7 : Int32))), .val (.int (Int32.ofNat n)), .val (.ref b397), .val (.ref b449), .unset] [])) _
            refine XS.iload X572.here hx rfl (hb hby at_310) rfl ?_
            show Steps p.tables e below (T572.setTop (mkF m 312 #[.val (.int p0), .val (.long q1), .second, .val (.long q2), .second, .val (.long q3), .second, .val (.int (p0 &&& (7 : Int32))), .val (.int (Int32.ofNat n)), .val (.ref b397), .val (.ref b449), .unset] [(.int (Int32.ofNat n))])) _
            refine XS.iconst X572.here hx rfl (hb hby at_312) ?_
            exact k
          by_cases hc579 : (5 : Int32) < (Int32.ofNat n)
          · obtain ⟨cl580, Ar580, q580, S580, N580', H580, G580⟩ := id P572_5
            have jk : 5 < n := (own_ltn (a := 5) (by omega) (by omega)).mp hc579
            have hin580 : ¬ ((5 : Int32) < 0 ∨ cl580.slots.size ≤ ((5 : Int32)).toNatClampNeg) := inb_of S580 (by decide)
            have hat580 : cl580.slots[((5 : Int32)).toNatClampNeg]? = some (.int (C.getD 5 0)) := H580.at hin580 (by rw [show (5 : Int32).toNatClampNeg = 5 from rfl]; simp [List.getD_eq_getElem?_getD, show 5 < C.length from by omega])
            obtain ⟨cl581, Ar581, q581, S581, N581', H581, G581⟩ := id P572_6
            have hin581 : ¬ ((5 : Int32) < 0 ∨ cl581.slots.size ≤ ((5 : Int32)).toNatClampNeg) := inb_of S581 (own_in (a := 5) (by omega) (by omega))
            obtain ⟨T582, h582, X582, e582, W582, st582⟩ := stC X572 hx hZ e572 Ar581 (j := (5 : Int32)) hin581 (g := (mkF m 323 #[.val (.int p0), .val (.long q1), .second, .val (.long q2), .second, .val (.long q3), .second, .val (.int (p0 &&& (7 : Int32))), .val (.int (Int32.ofNat n)), .val (.ref b397), .val (.ref b449), .unset] [(.int (C.getD 5 0)), (.int (5 : Int32)), (.ref b449)])) rfl rfl (hb hby at_323)
            have z583 := W582.size
            have N582 := Fr.snoc X582 N572 (by omega : h0.size ≤ b449)
            have KC584 : Keep h0 h582 [] := K572.wr W582 (Or.inr (by omega))
            have V582 : Arv Z h582 b449 k449 .char (Int32.ofNat n) (List.set (own_cp C n 5) (5) (.int (nar .char (C.getD 5 0)))) (.int (0 : Int32)) := Arv.set Ar581 q581 S581 N581' H581 G581 (fits_nar_char _) W582 (5) rfl (by rw [own_cpl C n 5 (by omega)]; exact jk)
            have pre585 : ∀ t, Steps p.tables e below (T582.setTop (mkF m 324 #[.val (.int p0), .val (.long q1), .second, .val (.long q2), .second, .val (.long q3), .second, .val (.int (p0 &&& (7 : Int32))), .val (.int (Int32.ofNat n)), .val (.ref b397), .val (.ref b449), .unset] [])) t → Steps p.tables e below (T572.setTop (mkF m 310 #[.val (.int p0), .val (.long q1), .second, .val (.long q2), .second, .val (.long q3), .second, .val (.int (p0 &&& (7 : Int32))), .val (.int (Int32.ofNat n)), .val (.ref b397), .val (.ref b449), .unset] [])) t := fun t k => by
              refine pre578 _ ?_
              show Steps p.tables e below (T572.setTop (mkF m 313 #[.val (.int p0), .val (.long q1), .second, .val (.long q2), .second, .val (.long q3), .second, .val (.int (p0 &&& (7 : Int32))), .val (.int (Int32.ofNat n)), .val (.ref b397), .val (.ref b449), .unset] [(.int (5 : Int32)), (.int (Int32.ofNat n))])) _
              refine XS.icmpNo X572.here hx rfl (hb hby at_313) rfl (tlt (hc579 : (5 : Int32) < (Int32.ofNat n))).2.2.2 ?_
              show Steps p.tables e below (T572.setTop (mkF m 316 #[.val (.int p0), .val (.long q1), .second, .val (.long q2), .second, .val (.long q3), .second, .val (.int (p0 &&& (7 : Int32))), .val (.int (Int32.ofNat n)), .val (.ref b397), .val (.ref b449), .unset] [])) _
              refine XS.aload X572.here hx rfl (hb hby at_316) rfl rfl ?_
              show Steps p.tables e below (T572.setTop (mkF m 318 #[.val (.int p0), .val (.long q1), .second, .val (.long q2), .second, .val (.long q3), .second, .val (.int (p0 &&& (7 : Int32))), .val (.int (Int32.ofNat n)), .val (.ref b397), .val (.ref b449), .unset] [(.ref b449)])) _
              refine XS.iconst X572.here hx rfl (hb hby at_318) ?_
              show Steps p.tables e below (T572.setTop (mkF m 319 #[.val (.int p0), .val (.long q1), .second, .val (.long q2), .second, .val (.long q3), .second, .val (.int (p0 &&& (7 : Int32))), .val (.int (Int32.ofNat n)), .val (.ref b397), .val (.ref b449), .unset] [(.int (5 : Int32)), (.ref b449)])) _
              refine XS.aload X572.here hx rfl (hb hby at_319) rfl rfl ?_
              show Steps p.tables e below (T572.setTop (mkF m 321 #[.val (.int p0), .val (.long q1), .second, .val (.long q2), .second, .val (.long q3), .second, .val (.int (p0 &&& (7 : Int32))), .val (.int (Int32.ofNat n)), .val (.ref b397), .val (.ref b449), .unset] [(.ref b397), (.int (5 : Int32)), (.ref b449)])) _
              refine XS.iconst X572.here hx rfl (hb hby at_321) ?_
              show Steps p.tables e below (T572.setTop (mkF m 322 #[.val (.int p0), .val (.long q1), .second, .val (.long q2), .second, .val (.long q3), .second, .val (.int (p0 &&& (7 : Int32))), .val (.int (Int32.ofNat n)), .val (.ref b397), .val (.ref b449), .unset] [(.int (5 : Int32)), (.ref b397), (.int (5 : Int32)), (.ref b449)])) _
              refine X572.caload hx (j := (5 : Int32)) (v := (.int (C.getD 5 0))) (by rw [e572]; exact Ar580.1) (State.isArrayOf_alike hZ.alike Ar580.2.1) Ar580.2.2 hin580 hat580 (g := (mkF m 322 #[.val (.int p0), .val (.long q1), .second, .val (.long q2), .second, .val (.long q3), .second, .val (.int (p0 &&& (7 : Int32))), .val (.int (Int32.ofNat n)), .val (.ref b397), .val (.ref b449), .unset] [(.int (5 : Int32)), (.ref b397), (.int (5 : Int32)), (.ref b449)])) rfl rfl (hb hby at_322) _ ?_
              show Steps p.tables e below (T572.setTop (mkF m 323 #[.val (.int p0), .val (.long q1), .second, .val (.long q2), .second, .val (.long q3), .second, .val (.int (p0 &&& (7 : Int32))), .val (.int (Int32.ofNat n)), .val (.ref b397), .val (.ref b449), .unset] [(.int (C.getD 5 0)), (.int (5 : Int32)), (.ref b449)])) _
              refine st582 _ ?_
              exact k
            have Vf586 := V582
            rw [own_cps C n 5 jk (by omega) hCb] at Vf586
            have Fc587 := (P572_0.wr W582)
            have Fc588 := (P572_1.wr W582)
            have Fc589 := (P572_2.wr W582)
            have Fc590 := (P572_3.wr W582)
            have Fc591 := (P572_4.wr W582)
            have Fc592 := (P572_5.other W582 (by omega : @Ne Nat b397 b449))
            exact ⟨_, _, _, X582, e582, N582, KC584, (by omega), Fc587, Fc588, Fc589, Fc590, Fc591, Fc592, Vf586, fun t kt => pre585 t kt⟩
          · have pre593 : ∀ t, Steps p.tables e below (T572.setTop (mkF m 324 #[.val (.int p0), .val (.long q1), .second, .val (.long q2), .second, .val (.long q3), .second, .val (.int (p0 &&& (7 : Int32))), .val (.int (Int32.ofNat n)), .val (.ref b397), .val (.ref b449), .unset] [])) t → Steps p.tables e below (T572.setTop (mkF m 310 #[.val (.int p0), .val (.long q1), .second, .val (.long q2), .second, .val (.long q3), .second, .val (.int (p0 &&& (7 : Int32))), .val (.int (Int32.ofNat n)), .val (.ref b397), .val (.ref b449), .unset] [])) t := fun t k => by
              refine pre578 _ ?_
              show Steps p.tables e below (T572.setTop (mkF m 313 #[.val (.int p0), .val (.long q1), .second, .val (.long q2), .second, .val (.long q3), .second, .val (.int (p0 &&& (7 : Int32))), .val (.int (Int32.ofNat n)), .val (.ref b397), .val (.ref b449), .unset] [(.int (5 : Int32)), (.int (Int32.ofNat n))])) _
              refine XS.icmpYes X572.here hx rfl (pc0 := 313) (pc' := 324) rfl (hb hby at_313) rfl (flt (hc579 : ¬ ((5 : Int32) < (Int32.ofNat n)))).2.2.2 (by decide) (by decide) ?_
              exact k
            have Vf594 := P572_6
            rw [own_cpe C n 5 (Nat.le_of_not_lt fun q => hc579 ((own_ltn (a := 5) (by omega) (by omega)).mpr q))] at Vf594
            exact ⟨_, _, _, X572, e572, N572, K572, (by omega), P572_0, P572_1, P572_2, P572_3, P572_4, P572_5, Vf594, fun t kt => pre593 t kt⟩
        obtain ⟨T595, L595, h595, X595, e595, N595, K595, z595, P595_0, P595_1, P595_2, P595_3, P595_4, P595_5, P595_6, st595⟩ := bk576
        have z596 : @LT.lt Nat _ b397 (Array.size h595) := P595_5.lt
        have z597 : @LT.lt Nat _ b449 (Array.size h595) := P595_6.lt
        have pre598 : ∀ t, Steps p.tables e below (T595.setTop (mkF m 324 #[.val (.int p0), .val (.long q1), .second, .val (.long q2), .second, .val (.long q3), .second, .val (.int (p0 &&& (7 : Int32))), .val (.int (Int32.ofNat n)), .val (.ref b397), .val (.ref b449), .unset] [])) t → Steps p.tables e below (s₁.setTop (entryFrame m #[(.int p0), (.long q1), (.long q2), (.long q3)] maxLocals)) t := fun t k => by
          refine pre575 _ ?_
          refine st595 _ ?_
          exact k
        have bk599 : ∃ (T' : State) (L' : List Loc) (h' : Heap), Stand p l e room_1 s m #[(.int p0), (.long q1), (.long q2), (.long q3)] below meth c T' L' 2 24 ∧ T'.heap = h' ∧ Fr h0.size L' ∧ Keep h0 h' [] ∧ @LE.le Nat _ (Array.size h595) (Array.size h') ∧ (Sta Z h' "java/lang/StringUTF16" "$assertionsDisabled" "Z" (.int (1 : Int32))) ∧ (Sta Z h' "java/lang/StringUTF16" "HI_BYTE_SHIFT" "I" (.int (0 : Int32))) ∧ (Sta Z h' "java/lang/StringUTF16" "LO_BYTE_SHIFT" "I" (.int (8 : Int32))) ∧ (Sta Z h' "java/lang/String" "COMPACT_STRINGS" "Z" (.int G1)) ∧ (Sta Z h' "jdk/internal/util/Preconditions" "SIOOBE_FORMATTER" "Ljava/util/function/BiFunction;" fm) ∧ (Arv Z h' b397 k397 .char (12 : Int32) (C.map Value.int) (.int (0 : Int32))) ∧ (Arv Z h' b449 k449 .char (Int32.ofNat n) (own_cp C n 7) (.int (0 : Int32))) ∧ (∀ t, Steps p.tables e below (T'.setTop (mkF m 341 #[.val (.int p0), .val (.long q1), .second, .val (.long q2), .second, .val (.long q3), .second, .val (.int (p0 &&& (7 : Int32))), .val (.int (Int32.ofNat n)), .val (.ref b397), .val (.ref b449), .unset] [])) t → Steps p.tables e below (T595.setTop (mkF m 324 #[.val (.int p0), .val (.long q1), .second, .val (.long q2), .second, .val (.long q3), .second, .val (.int (p0 &&& (7 : Int32))), .val (.int (Int32.ofNat n)), .val (.ref b397), .val (.ref b449), .unset] [])) t) := by
          have pre600 : ∀ t, Steps p.tables e below (T595.setTop (mkF m 324 #[.val (.int p0), .val (.long q1), .second, .val (.long q2), .second, .val (.long q3), .second, .val (.int (p0 &&& (7 : Int32))), .val (.int (Int32.ofNat n)), .val (.ref b397), .val (.ref b449), .unset] [])) t → Steps p.tables e below (T595.setTop (mkF m 324 #[.val (.int p0), .val (.long q1), .second, .val (.long q2), .second, .val (.long q3), .second, .val (.int (p0 &&& (7 : Int32))), .val (.int (Int32.ofNat n)), .val (.ref b397), .val (.ref b449), .unset] [])) t := fun t k => k
          have pre601 : ∀ t, Steps p.tables e below (T595.setTop (mkF m 328 #[.val (.int p0), .val (.long q1), .second, .val (.long q2), .second, .val (.long q3), .second, .val (.int (p0 &&& (7 : Int32))), .val (.int (Int32.ofNat n)), .val (.ref b397), .val (.ref b449), .unset] [(.int (6 : Int32)), (.int (Int32.ofNat n))])) t → Steps p.tables e below (T595.setTop (mkF m 324 #[.val (.int p0), .val (.long q1), .second, .val (.long q2), .second, .val (.long q3), .second, .val (.int (p0 &&& (7 : Int32))), .val (.int (Int32.ofNat n)), .val (.ref b397), .val (.ref b449), .unset] [])) t := fun t k => by
            refine pre600 _ ?_
            show Steps p.tables e below (T595.setTop (mkF m 324 #[.val (.int p0), .val (.long q1), .second, .val (.long q2), .second, .val (.long q3), .second, .val (.int (p0 &&& (7 : Int32))), .val (.int (Int32.ofNat n)), .val (.ref b397), .val (.ref b449), .unset] [])) _
            refine XS.iload X595.here hx rfl (hb hby at_324) rfl ?_
            show Steps p.tables e below (T595.setTop (mkF m 326 #[.val (.int p0), .val (.long q1), .second, .val (.long q2), .second, .val (.long q3), .second, .val (.int (p0 &&& (7 : Int32))), .val (.int (Int32.ofNat n)), .val (.ref b397), .val (.ref b449), .unset] [(.int (Int32.ofNat n))])) _
            refine XS.bipush X595.here hx rfl (hb hby at_326) ?_
            exact k
          by_cases hc602 : (6 : Int32) < (Int32.ofNat n)
          · obtain ⟨cl603, Ar603, q603, S603, N603', H603, G603⟩ := id P595_5
            have jk : 6 < n := (own_ltn (a := 6) (by omega) (by omega)).mp hc602
            have hin603 : ¬ ((6 : Int32) < 0 ∨ cl603.slots.size ≤ ((6 : Int32)).toNatClampNeg) := inb_of S603 (by decide)
            have hat603 : cl603.slots[((6 : Int32)).toNatClampNeg]? = some (.int (C.getD 6 0)) := H603.at hin603 (by rw [show (6 : Int32).toNatClampNeg = 6 from rfl]; simp [List.getD_eq_getElem?_getD, show 6 < C.length from by omega])
            obtain ⟨cl604, Ar604, q604, S604, N604', H604, G604⟩ := id P595_6
            have hin604 : ¬ ((6 : Int32) < 0 ∨ cl604.slots.size ≤ ((6 : Int32)).toNatClampNeg) := inb_of S604 (own_in (a := 6) (by omega) (by omega))
            obtain ⟨T605, h605, X605, e605, W605, st605⟩ := stC X595 hx hZ e595 Ar604 (j := (6 : Int32)) hin604 (g := (mkF m 340 #[.val (.int p0), .val (.long q1), .second, .val (.long q2), .second, .val (.long q3), .second, .val (.int (p0 &&& (7 : Int32))), .val (.int (Int32.ofNat n)), .val (.ref b397), .val (.ref b449), .unset] [(.int (C.getD 6 0)), (.int (6 : Int32)), (.ref b449)])) rfl rfl (hb hby at_340)
            have z606 := W605.size
            have N605 := Fr.snoc X605 N595 (by omega : h0.size ≤ b449)
            have KC607 : Keep h0 h605 [] := K595.wr W605 (Or.inr (by omega))
            have V605 : Arv Z h605 b449 k449 .char (Int32.ofNat n) (List.set (own_cp C n 6) (6) (.int (nar .char (C.getD 6 0)))) (.int (0 : Int32)) := Arv.set Ar604 q604 S604 N604' H604 G604 (fits_nar_char _) W605 (6) rfl (by rw [own_cpl C n 6 (by omega)]; exact jk)
            have pre608 : ∀ t, Steps p.tables e below (T605.setTop (mkF m 341 #[.val (.int p0), .val (.long q1), .second, .val (.long q2), .second, .val (.long q3), .second, .val (.int (p0 &&& (7 : Int32))), .val (.int (Int32.ofNat n)), .val (.ref b397), .val (.ref b449), .unset] [])) t → Steps p.tables e below (T595.setTop (mkF m 324 #[.val (.int p0), .val (.long q1), .second, .val (.long q2), .second, .val (.long q3), .second, .val (.int (p0 &&& (7 : Int32))), .val (.int (Int32.ofNat n)), .val (.ref b397), .val (.ref b449), .unset] [])) t := fun t k => by
              refine pre601 _ ?_
              show Steps p.tables e below (T595.setTop (mkF m 328 #[.val (.int p0), .val (.long q1), .second, .val (.long q2), .second, .val (.long q3), .second, .val (.int (p0 &&& (7 : Int32))), .val (.int (Int32.ofNat n)), .val (.ref b397), .val (.ref b449), .unset] [(.int (6 : Int32)), (.int (Int32.ofNat n))])) _
              refine XS.icmpNo X595.here hx rfl (hb hby at_328) rfl (tlt (hc602 : (6 : Int32) < (Int32.ofNat n))).2.2.2 ?_
              show Steps p.tables e below (T595.setTop (mkF m 331 #[.val (.int p0), .val (.long q1), .second, .val (.long q2), .second, .val (.long q3), .second, .val (.int (p0 &&& (7 : Int32))), .val (.int (Int32.ofNat n)), .val (.ref b397), .val (.ref b449), .unset] [])) _
              refine XS.aload X595.here hx rfl (hb hby at_331) rfl rfl ?_
              show Steps p.tables e below (T595.setTop (mkF m 333 #[.val (.int p0), .val (.long q1), .second, .val (.long q2), .second, .val (.long q3), .second, .val (.int (p0 &&& (7 : Int32))), .val (.int (Int32.ofNat n)), .val (.ref b397), .val (.ref b449), .unset] [(.ref b449)])) _
              refine XS.bipush X595.here hx rfl (hb hby at_333) ?_
              show Steps p.tables e below (T595.setTop (mkF m 335 #[.val (.int p0), .val (.long q1), .second, .val (.long q2), .second, .val (.long q3), .second, .val (.int (p0 &&& (7 : Int32))), .val (.int (Int32.ofNat n)), .val (.ref b397), .val (.ref b449), .unset] [(.int (6 : Int32)), (.ref b449)])) _
              refine XS.aload X595.here hx rfl (hb hby at_335) rfl rfl ?_
              show Steps p.tables e below (T595.setTop (mkF m 337 #[.val (.int p0), .val (.long q1), .second, .val (.long q2), .second, .val (.long q3), .second, .val (.int (p0 &&& (7 : Int32))), .val (.int (Int32.ofNat n)), .val (.ref b397), .val (.ref b449), .unset] [(.ref b397), (.int (6 : Int32)), (.ref b449)])) _
              refine XS.bipush X595.here hx rfl (hb hby at_337) ?_
              show Steps p.tables e below (T595.setTop (mkF m 339 #[.val (.int p0), .val (.long q1), .second, .val (.long q2), .second, .val (.long q3), .second, .val (.int (p0 &&& (7 : Int32))), .val (.int (Int32.ofNat n)), .val (.ref b397), .val (.ref b449), .unset] [(.int (6 : Int32)), (.ref b397), (.int (6 : Int32)), (.ref b449)])) _
              refine X595.caload hx (j := (6 : Int32)) (v := (.int (C.getD 6 0))) (by rw [e595]; exact Ar603.1) (State.isArrayOf_alike hZ.alike Ar603.2.1) Ar603.2.2 hin603 hat603 (g := (mkF m 339 #[.val (.int p0), .val (.long q1), .second, .val (.long q2), .second, .val (.long q3), .second, .val (.int (p0 &&& (7 : Int32))), .val (.int (Int32.ofNat n)), .val (.ref b397), .val (.ref b449), .unset] [(.int (6 : Int32)), (.ref b397), (.int (6 : Int32)), (.ref b449)])) rfl rfl (hb hby at_339) _ ?_
              show Steps p.tables e below (T595.setTop (mkF m 340 #[.val (.int p0), .val (.long q1), .second, .val (.long q2), .second, .val (.long q3), .second, .val (.int (p0 &&& (7 : Int32))), .val (.int (Int32.ofNat n)), .val (.ref b397), .val (.ref b449), .unset] [(.int (C.getD 6 0)), (.int (6 : Int32)), (.ref b449)])) _
              refine st605 _ ?_
              exact k
            have Vf609 := V605
            rw [own_cps C n 6 jk (by omega) hCb] at Vf609
            have Fc610 := (P595_0.wr W605)
            have Fc611 := (P595_1.wr W605)
            have Fc612 := (P595_2.wr W605)
            have Fc613 := (P595_3.wr W605)
            have Fc614 := (P595_4.wr W605)
            have Fc615 := (P595_5.other W605 (by omega : @Ne Nat b397 b449))
            exact ⟨_, _, _, X605, e605, N605, KC607, (by omega), Fc610, Fc611, Fc612, Fc613, Fc614, Fc615, Vf609, fun t kt => pre608 t kt⟩
          · have pre616 : ∀ t, Steps p.tables e below (T595.setTop (mkF m 341 #[.val (.int p0), .val (.long q1), .second, .val (.long q2), .second, .val (.long q3), .second, .val (.int (p0 &&& (7 : Int32))), .val (.int (Int32.ofNat n)), .val (.ref b397), .val (.ref b449), .unset] [])) t → Steps p.tables e below (T595.setTop (mkF m 324 #[.val (.int p0), .val (.long q1), .second, .val (.long q2), .second, .val (.long q3), .second, .val (.int (p0 &&& (7 : Int32))), .val (.int (Int32.ofNat n)), .val (.ref b397), .val (.ref b449), .unset] [])) t := fun t k => by
              refine pre601 _ ?_
              show Steps p.tables e below (T595.setTop (mkF m 328 #[.val (.int p0), .val (.long q1), .second, .val (.long q2), .second, .val (.long q3), .second, .val (.int (p0 &&& (7 : Int32))), .val (.int (Int32.ofNat n)), .val (.ref b397), .val (.ref b449), .unset] [(.int (6 : Int32)), (.int (Int32.ofNat n))])) _
              refine XS.icmpYes X595.here hx rfl (pc0 := 328) (pc' := 341) rfl (hb hby at_328) rfl (flt (hc602 : ¬ ((6 : Int32) < (Int32.ofNat n)))).2.2.2 (by decide) (by decide) ?_
              exact k
            have Vf617 := P595_6
            rw [own_cpe C n 6 (Nat.le_of_not_lt fun q => hc602 ((own_ltn (a := 6) (by omega) (by omega)).mpr q))] at Vf617
            exact ⟨_, _, _, X595, e595, N595, K595, (by omega), P595_0, P595_1, P595_2, P595_3, P595_4, P595_5, Vf617, fun t kt => pre616 t kt⟩
        obtain ⟨T618, L618, h618, X618, e618, N618, K618, z618, P618_0, P618_1, P618_2, P618_3, P618_4, P618_5, P618_6, st618⟩ := bk599
        have z619 : @LT.lt Nat _ b397 (Array.size h618) := P618_5.lt
        have z620 : @LT.lt Nat _ b449 (Array.size h618) := P618_6.lt
        have pre621 : ∀ t, Steps p.tables e below (T618.setTop (mkF m 341 #[.val (.int p0), .val (.long q1), .second, .val (.long q2), .second, .val (.long q3), .second, .val (.int (p0 &&& (7 : Int32))), .val (.int (Int32.ofNat n)), .val (.ref b397), .val (.ref b449), .unset] [])) t → Steps p.tables e below (s₁.setTop (entryFrame m #[(.int p0), (.long q1), (.long q2), (.long q3)] maxLocals)) t := fun t k => by
          refine pre598 _ ?_
          refine st618 _ ?_
          exact k
        have bk622 : ∃ (T' : State) (L' : List Loc) (h' : Heap), Stand p l e room_1 s m #[(.int p0), (.long q1), (.long q2), (.long q3)] below meth c T' L' 2 24 ∧ T'.heap = h' ∧ Fr h0.size L' ∧ Keep h0 h' [] ∧ @LE.le Nat _ (Array.size h618) (Array.size h') ∧ (Sta Z h' "java/lang/StringUTF16" "$assertionsDisabled" "Z" (.int (1 : Int32))) ∧ (Sta Z h' "java/lang/StringUTF16" "HI_BYTE_SHIFT" "I" (.int (0 : Int32))) ∧ (Sta Z h' "java/lang/StringUTF16" "LO_BYTE_SHIFT" "I" (.int (8 : Int32))) ∧ (Sta Z h' "java/lang/String" "COMPACT_STRINGS" "Z" (.int G1)) ∧ (Sta Z h' "jdk/internal/util/Preconditions" "SIOOBE_FORMATTER" "Ljava/util/function/BiFunction;" fm) ∧ (Arv Z h' b397 k397 .char (12 : Int32) (C.map Value.int) (.int (0 : Int32))) ∧ (Arv Z h' b449 k449 .char (Int32.ofNat n) (own_cp C n 8) (.int (0 : Int32))) ∧ (∀ t, Steps p.tables e below (T'.setTop (mkF m 358 #[.val (.int p0), .val (.long q1), .second, .val (.long q2), .second, .val (.long q3), .second, .val (.int (p0 &&& (7 : Int32))), .val (.int (Int32.ofNat n)), .val (.ref b397), .val (.ref b449), .unset] [])) t → Steps p.tables e below (T618.setTop (mkF m 341 #[.val (.int p0), .val (.long q1), .second, .val (.long q2), .second, .val (.long q3), .second, .val (.int (p0 &&& (7 : Int32))), .val (.int (Int32.ofNat n)), .val (.ref b397), .val (.ref b449), .unset] [])) t) := by
          have pre623 : ∀ t, Steps p.tables e below (T618.setTop (mkF m 341 #[.val (.int p0), .val (.long q1), .second, .val (.long q2), .second, .val (.long q3), .second, .val (.int (p0 &&& (7 : Int32))), .val (.int (Int32.ofNat n)), .val (.ref b397), .val (.ref b449), .unset] [])) t → Steps p.tables e below (T618.setTop (mkF m 341 #[.val (.int p0), .val (.long q1), .second, .val (.long q2), .second, .val (.long q3), .second, .val (.int (p0 &&& (7 : Int32))), .val (.int (Int32.ofNat n)), .val (.ref b397), .val (.ref b449), .unset] [])) t := fun t k => k
          have pre624 : ∀ t, Steps p.tables e below (T618.setTop (mkF m 345 #[.val (.int p0), .val (.long q1), .second, .val (.long q2), .second, .val (.long q3), .second, .val (.int (p0 &&& (7 : Int32))), .val (.int (Int32.ofNat n)), .val (.ref b397), .val (.ref b449), .unset] [(.int (7 : Int32)), (.int (Int32.ofNat n))])) t → Steps p.tables e below (T618.setTop (mkF m 341 #[.val (.int p0), .val (.long q1), .second, .val (.long q2), .second, .val (.long q3), .second, .val (.int (p0 &&& (7 : Int32))), .val (.int (Int32.ofNat n)), .val (.ref b397), .val (.ref b449), .unset] [])) t := fun t k => by
            refine pre623 _ ?_
            show Steps p.tables e below (T618.setTop (mkF m 341 #[.val (.int p0), .val (.long q1), .second, .val (.long q2), .second, .val (.long q3), .second, .val (.int (p0 &&& (7 : Int32))), .val (.int (Int32.ofNat n)), .val (.ref b397), .val (.ref b449), .unset] [])) _
            refine XS.iload X618.here hx rfl (hb hby at_341) rfl ?_
            show Steps p.tables e below (T618.setTop (mkF m 343 #[.val (.int p0), .val (.long q1), .second, .val (.long q2), .second, .val (.long q3), .second, .val (.int (p0 &&& (7 : Int32))), .val (.int (Int32.ofNat n)), .val (.ref b397), .val (.ref b449), .unset] [(.int (Int32.ofNat n))])) _
            refine XS.bipush X618.here hx rfl (hb hby at_343) ?_
            exact k
          by_cases hc625 : (7 : Int32) < (Int32.ofNat n)
          · obtain ⟨cl626, Ar626, q626, S626, N626', H626, G626⟩ := id P618_5
            have jk : 7 < n := (own_ltn (a := 7) (by omega) (by omega)).mp hc625
            have hin626 : ¬ ((7 : Int32) < 0 ∨ cl626.slots.size ≤ ((7 : Int32)).toNatClampNeg) := inb_of S626 (by decide)
            have hat626 : cl626.slots[((7 : Int32)).toNatClampNeg]? = some (.int (C.getD 7 0)) := H626.at hin626 (by rw [show (7 : Int32).toNatClampNeg = 7 from rfl]; simp [List.getD_eq_getElem?_getD, show 7 < C.length from by omega])
            obtain ⟨cl627, Ar627, q627, S627, N627', H627, G627⟩ := id P618_6
            have hin627 : ¬ ((7 : Int32) < 0 ∨ cl627.slots.size ≤ ((7 : Int32)).toNatClampNeg) := inb_of S627 (own_in (a := 7) (by omega) (by omega))
            obtain ⟨T628, h628, X628, e628, W628, st628⟩ := stC X618 hx hZ e618 Ar627 (j := (7 : Int32)) hin627 (g := (mkF m 357 #[.val (.int p0), .val (.long q1), .second, .val (.long q2), .second, .val (.long q3), .second, .val (.int (p0 &&& (7 : Int32))), .val (.int (Int32.ofNat n)), .val (.ref b397), .val (.ref b449), .unset] [(.int (C.getD 7 0)), (.int (7 : Int32)), (.ref b449)])) rfl rfl (hb hby at_357)
            have z629 := W628.size
            have N628 := Fr.snoc X628 N618 (by omega : h0.size ≤ b449)
            have KC630 : Keep h0 h628 [] := K618.wr W628 (Or.inr (by omega))
            have V628 : Arv Z h628 b449 k449 .char (Int32.ofNat n) (List.set (own_cp C n 7) (7) (.int (nar .char (C.getD 7 0)))) (.int (0 : Int32)) := Arv.set Ar627 q627 S627 N627' H627 G627 (fits_nar_char _) W628 (7) rfl (by rw [own_cpl C n 7 (by omega)]; exact jk)
            have pre631 : ∀ t, Steps p.tables e below (T628.setTop (mkF m 358 #[.val (.int p0), .val (.long q1), .second, .val (.long q2), .second, .val (.long q3), .second, .val (.int (p0 &&& (7 : Int32))), .val (.int (Int32.ofNat n)), .val (.ref b397), .val (.ref b449), .unset] [])) t → Steps p.tables e below (T618.setTop (mkF m 341 #[.val (.int p0), .val (.long q1), .second, .val (.long q2), .second, .val (.long q3), .second, .val (.int (p0 &&& (7 : Int32))), .val (.int (Int32.ofNat n)), .val (.ref b397), .val (.ref b449), .unset] [])) t := fun t k => by
              refine pre624 _ ?_
              show Steps p.tables e below (T618.setTop (mkF m 345 #[.val (.int p0), .val (.long q1), .second, .val (.long q2), .second, .val (.long q3), .second, .val (.int (p0 &&& (7 : Int32))), .val (.int (Int32.ofNat n)), .val (.ref b397), .val (.ref b449), .unset] [(.int (7 : Int32)), (.int (Int32.ofNat n))])) _
              refine XS.icmpNo X618.here hx rfl (hb hby at_345) rfl (tlt (hc625 : (7 : Int32) < (Int32.ofNat n))).2.2.2 ?_
              show Steps p.tables e below (T618.setTop (mkF m 348 #[.val (.int p0), .val (.long q1), .second, .val (.long q2), .second, .val (.long q3), .second, .val (.int (p0 &&& (7 : Int32))), .val (.int (Int32.ofNat n)), .val (.ref b397), .val (.ref b449), .unset] [])) _
              refine XS.aload X618.here hx rfl (hb hby at_348) rfl rfl ?_
              show Steps p.tables e below (T618.setTop (mkF m 350 #[.val (.int p0), .val (.long q1), .second, .val (.long q2), .second, .val (.long q3), .second, .val (.int (p0 &&& (7 : Int32))), .val (.int (Int32.ofNat n)), .val (.ref b397), .val (.ref b449), .unset] [(.ref b449)])) _
              refine XS.bipush X618.here hx rfl (hb hby at_350) ?_
              show Steps p.tables e below (T618.setTop (mkF m 352 #[.val (.int p0), .val (.long q1), .second, .val (.long q2), .second, .val (.long q3), .second, .val (.int (p0 &&& (7 : Int32))), .val (.int (Int32.ofNat n)), .val (.ref b397), .val (.ref b449), .unset] [(.int (7 : Int32)), (.ref b449)])) _
              refine XS.aload X618.here hx rfl (hb hby at_352) rfl rfl ?_
              show Steps p.tables e below (T618.setTop (mkF m 354 #[.val (.int p0), .val (.long q1), .second, .val (.long q2), .second, .val (.long q3), .second, .val (.int (p0 &&& (7 : Int32))), .val (.int (Int32.ofNat n)), .val (.ref b397), .val (.ref b449), .unset] [(.ref b397), (.int (7 : Int32)), (.ref b449)])) _
              refine XS.bipush X618.here hx rfl (hb hby at_354) ?_
              show Steps p.tables e below (T618.setTop (mkF m 356 #[.val (.int p0), .val (.long q1), .second, .val (.long q2), .second, .val (.long q3), .second, .val (.int (p0 &&& (7 : Int32))), .val (.int (Int32.ofNat n)), .val (.ref b397), .val (.ref b449), .unset] [(.int (7 : Int32)), (.ref b397), (.int (7 : Int32)), (.ref b449)])) _
              refine X618.caload hx (j := (7 : Int32)) (v := (.int (C.getD 7 0))) (by rw [e618]; exact Ar626.1) (State.isArrayOf_alike hZ.alike Ar626.2.1) Ar626.2.2 hin626 hat626 (g := (mkF m 356 #[.val (.int p0), .val (.long q1), .second, .val (.long q2), .second, .val (.long q3), .second, .val (.int (p0 &&& (7 : Int32))), .val (.int (Int32.ofNat n)), .val (.ref b397), .val (.ref b449), .unset] [(.int (7 : Int32)), (.ref b397), (.int (7 : Int32)), (.ref b449)])) rfl rfl (hb hby at_356) _ ?_
              show Steps p.tables e below (T618.setTop (mkF m 357 #[.val (.int p0), .val (.long q1), .second, .val (.long q2), .second, .val (.long q3), .second, .val (.int (p0 &&& (7 : Int32))), .val (.int (Int32.ofNat n)), .val (.ref b397), .val (.ref b449), .unset] [(.int (C.getD 7 0)), (.int (7 : Int32)), (.ref b449)])) _
              refine st628 _ ?_
              exact k
            have Vf632 := V628
            rw [own_cps C n 7 jk (by omega) hCb] at Vf632
            have Fc633 := (P618_0.wr W628)
            have Fc634 := (P618_1.wr W628)
            have Fc635 := (P618_2.wr W628)
            have Fc636 := (P618_3.wr W628)
            have Fc637 := (P618_4.wr W628)
            have Fc638 := (P618_5.other W628 (by omega : @Ne Nat b397 b449))
            exact ⟨_, _, _, X628, e628, N628, KC630, (by omega), Fc633, Fc634, Fc635, Fc636, Fc637, Fc638, Vf632, fun t kt => pre631 t kt⟩
          · have pre639 : ∀ t, Steps p.tables e below (T618.setTop (mkF m 358 #[.val (.int p0), .val (.long q1), .second, .val (.long q2), .second, .val (.long q3), .second, .val (.int (p0 &&& (7 : Int32))), .val (.int (Int32.ofNat n)), .val (.ref b397), .val (.ref b449), .unset] [])) t → Steps p.tables e below (T618.setTop (mkF m 341 #[.val (.int p0), .val (.long q1), .second, .val (.long q2), .second, .val (.long q3), .second, .val (.int (p0 &&& (7 : Int32))), .val (.int (Int32.ofNat n)), .val (.ref b397), .val (.ref b449), .unset] [])) t := fun t k => by
              refine pre624 _ ?_
              show Steps p.tables e below (T618.setTop (mkF m 345 #[.val (.int p0), .val (.long q1), .second, .val (.long q2), .second, .val (.long q3), .second, .val (.int (p0 &&& (7 : Int32))), .val (.int (Int32.ofNat n)), .val (.ref b397), .val (.ref b449), .unset] [(.int (7 : Int32)), (.int (Int32.ofNat n))])) _
              refine XS.icmpYes X618.here hx rfl (pc0 := 345) (pc' := 358) rfl (hb hby at_345) rfl (flt (hc625 : ¬ ((7 : Int32) < (Int32.ofNat n)))).2.2.2 (by decide) (by decide) ?_
              exact k
            have Vf640 := P618_6
            rw [own_cpe C n 7 (Nat.le_of_not_lt fun q => hc625 ((own_ltn (a := 7) (by omega) (by omega)).mpr q))] at Vf640
            exact ⟨_, _, _, X618, e618, N618, K618, (by omega), P618_0, P618_1, P618_2, P618_3, P618_4, P618_5, Vf640, fun t kt => pre639 t kt⟩
        obtain ⟨T641, L641, h641, X641, e641, N641, K641, z641, P641_0, P641_1, P641_2, P641_3, P641_4, P641_5, P641_6, st641⟩ := bk622
        have z642 : @LT.lt Nat _ b397 (Array.size h641) := P641_5.lt
        have z643 : @LT.lt Nat _ b449 (Array.size h641) := P641_6.lt
        have pre644 : ∀ t, Steps p.tables e below (T641.setTop (mkF m 358 #[.val (.int p0), .val (.long q1), .second, .val (.long q2), .second, .val (.long q3), .second, .val (.int (p0 &&& (7 : Int32))), .val (.int (Int32.ofNat n)), .val (.ref b397), .val (.ref b449), .unset] [])) t → Steps p.tables e below (s₁.setTop (entryFrame m #[(.int p0), (.long q1), (.long q2), (.long q3)] maxLocals)) t := fun t k => by
          refine pre621 _ ?_
          refine st641 _ ?_
          exact k
        have bk645 : ∃ (T' : State) (L' : List Loc) (h' : Heap), Stand p l e room_1 s m #[(.int p0), (.long q1), (.long q2), (.long q3)] below meth c T' L' 2 24 ∧ T'.heap = h' ∧ Fr h0.size L' ∧ Keep h0 h' [] ∧ @LE.le Nat _ (Array.size h641) (Array.size h') ∧ (Sta Z h' "java/lang/StringUTF16" "$assertionsDisabled" "Z" (.int (1 : Int32))) ∧ (Sta Z h' "java/lang/StringUTF16" "HI_BYTE_SHIFT" "I" (.int (0 : Int32))) ∧ (Sta Z h' "java/lang/StringUTF16" "LO_BYTE_SHIFT" "I" (.int (8 : Int32))) ∧ (Sta Z h' "java/lang/String" "COMPACT_STRINGS" "Z" (.int G1)) ∧ (Sta Z h' "jdk/internal/util/Preconditions" "SIOOBE_FORMATTER" "Ljava/util/function/BiFunction;" fm) ∧ (Arv Z h' b397 k397 .char (12 : Int32) (C.map Value.int) (.int (0 : Int32))) ∧ (Arv Z h' b449 k449 .char (Int32.ofNat n) (own_cp C n 9) (.int (0 : Int32))) ∧ (∀ t, Steps p.tables e below (T'.setTop (mkF m 375 #[.val (.int p0), .val (.long q1), .second, .val (.long q2), .second, .val (.long q3), .second, .val (.int (p0 &&& (7 : Int32))), .val (.int (Int32.ofNat n)), .val (.ref b397), .val (.ref b449), .unset] [])) t → Steps p.tables e below (T641.setTop (mkF m 358 #[.val (.int p0), .val (.long q1), .second, .val (.long q2), .second, .val (.long q3), .second, .val (.int (p0 &&& (7 : Int32))), .val (.int (Int32.ofNat n)), .val (.ref b397), .val (.ref b449), .unset] [])) t) := by
          have pre646 : ∀ t, Steps p.tables e below (T641.setTop (mkF m 358 #[.val (.int p0), .val (.long q1), .second, .val (.long q2), .second, .val (.long q3), .second, .val (.int (p0 &&& (7 : Int32))), .val (.int (Int32.ofNat n)), .val (.ref b397), .val (.ref b449), .unset] [])) t → Steps p.tables e below (T641.setTop (mkF m 358 #[.val (.int p0), .val (.long q1), .second, .val (.long q2), .second, .val (.long q3), .second, .val (.int (p0 &&& (7 : Int32))), .val (.int (Int32.ofNat n)), .val (.ref b397), .val (.ref b449), .unset] [])) t := fun t k => k
          have pre647 : ∀ t, Steps p.tables e below (T641.setTop (mkF m 362 #[.val (.int p0), .val (.long q1), .second, .val (.long q2), .second, .val (.long q3), .second, .val (.int (p0 &&& (7 : Int32))), .val (.int (Int32.ofNat n)), .val (.ref b397), .val (.ref b449), .unset] [(.int (8 : Int32)), (.int (Int32.ofNat n))])) t → Steps p.tables e below (T641.setTop (mkF m 358 #[.val (.int p0), .val (.long q1), .second, .val (.long q2), .second, .val (.long q3), .second, .val (.int (p0 &&& (7 : Int32))), .val (.int (Int32.ofNat n)), .val (.ref b397), .val (.ref b449), .unset] [])) t := fun t k => by
            refine pre646 _ ?_
            show Steps p.tables e below (T641.setTop (mkF m 358 #[.val (.int p0), .val (.long q1), .second, .val (.long q2), .second, .val (.long q3), .second, .val (.int (p0 &&& (7 : Int32))), .val (.int (Int32.ofNat n)), .val (.ref b397), .val (.ref b449), .unset] [])) _
            refine XS.iload X641.here hx rfl (hb hby at_358) rfl ?_
            show Steps p.tables e below (T641.setTop (mkF m 360 #[.val (.int p0), .val (.long q1), .second, .val (.long q2), .second, .val (.long q3), .second, .val (.int (p0 &&& (7 : Int32))), .val (.int (Int32.ofNat n)), .val (.ref b397), .val (.ref b449), .unset] [(.int (Int32.ofNat n))])) _
            refine XS.bipush X641.here hx rfl (hb hby at_360) ?_
            exact k
          by_cases hc648 : (8 : Int32) < (Int32.ofNat n)
          · obtain ⟨cl649, Ar649, q649, S649, N649', H649, G649⟩ := id P641_5
            have jk : 8 < n := (own_ltn (a := 8) (by omega) (by omega)).mp hc648
            have hin649 : ¬ ((8 : Int32) < 0 ∨ cl649.slots.size ≤ ((8 : Int32)).toNatClampNeg) := inb_of S649 (by decide)
            have hat649 : cl649.slots[((8 : Int32)).toNatClampNeg]? = some (.int (C.getD 8 0)) := H649.at hin649 (by rw [show (8 : Int32).toNatClampNeg = 8 from rfl]; simp [List.getD_eq_getElem?_getD, show 8 < C.length from by omega])
            obtain ⟨cl650, Ar650, q650, S650, N650', H650, G650⟩ := id P641_6
            have hin650 : ¬ ((8 : Int32) < 0 ∨ cl650.slots.size ≤ ((8 : Int32)).toNatClampNeg) := inb_of S650 (own_in (a := 8) (by omega) (by omega))
            obtain ⟨T651, h651, X651, e651, W651, st651⟩ := stC X641 hx hZ e641 Ar650 (j := (8 : Int32)) hin650 (g := (mkF m 374 #[.val (.int p0), .val (.long q1), .second, .val (.long q2), .second, .val (.long q3), .second, .val (.int (p0 &&& (7 : Int32))), .val (.int (Int32.ofNat n)), .val (.ref b397), .val (.ref b449), .unset] [(.int (C.getD 8 0)), (.int (8 : Int32)), (.ref b449)])) rfl rfl (hb hby at_374)
            have z652 := W651.size
            have N651 := Fr.snoc X651 N641 (by omega : h0.size ≤ b449)
            have KC653 : Keep h0 h651 [] := K641.wr W651 (Or.inr (by omega))
            have V651 : Arv Z h651 b449 k449 .char (Int32.ofNat n) (List.set (own_cp C n 8) (8) (.int (nar .char (C.getD 8 0)))) (.int (0 : Int32)) := Arv.set Ar650 q650 S650 N650' H650 G650 (fits_nar_char _) W651 (8) rfl (by rw [own_cpl C n 8 (by omega)]; exact jk)
            have pre654 : ∀ t, Steps p.tables e below (T651.setTop (mkF m 375 #[.val (.int p0), .val (.long q1), .second, .val (.long q2), .second, .val (.long q3), .second, .val (.int (p0 &&& (7 : Int32))), .val (.int (Int32.ofNat n)), .val (.ref b397), .val (.ref b449), .unset] [])) t → Steps p.tables e below (T641.setTop (mkF m 358 #[.val (.int p0), .val (.long q1), .second, .val (.long q2), .second, .val (.long q3), .second, .val (.int (p0 &&& (7 : Int32))), .val (.int (Int32.ofNat n)), .val (.ref b397), .val (.ref b449), .unset] [])) t := fun t k => by
              refine pre647 _ ?_
              show Steps p.tables e below (T641.setTop (mkF m 362 #[.val (.int p0), .val (.long q1), .second, .val (.long q2), .second, .val (.long q3), .second, .val (.int (p0 &&& (7 : Int32))), .val (.int (Int32.ofNat n)), .val (.ref b397), .val (.ref b449), .unset] [(.int (8 : Int32)), (.int (Int32.ofNat n))])) _
              refine XS.icmpNo X641.here hx rfl (hb hby at_362) rfl (tlt (hc648 : (8 : Int32) < (Int32.ofNat n))).2.2.2 ?_
              show Steps p.tables e below (T641.setTop (mkF m 365 #[.val (.int p0), .val (.long q1), .second, .val (.long q2), .second, .val (.long q3), .second, .val (.int (p0 &&& (7 : Int32))), .val (.int (Int32.ofNat n)), .val (.ref b397), .val (.ref b449), .unset] [])) _
              refine XS.aload X641.here hx rfl (hb hby at_365) rfl rfl ?_
              show Steps p.tables e below (T641.setTop (mkF m 367 #[.val (.int p0), .val (.long q1), .second, .val (.long q2), .second, .val (.long q3), .second, .val (.int (p0 &&& (7 : Int32))), .val (.int (Int32.ofNat n)), .val (.ref b397), .val (.ref b449), .unset] [(.ref b449)])) _
              refine XS.bipush X641.here hx rfl (hb hby at_367) ?_
              show Steps p.tables e below (T641.setTop (mkF m 369 #[.val (.int p0), .val (.long q1), .second, .val (.long q2), .second, .val (.long q3), .second, .val (.int (p0 &&& (7 : Int32))), .val (.int (Int32.ofNat n)), .val (.ref b397), .val (.ref b449), .unset] [(.int (8 : Int32)), (.ref b449)])) _
              refine XS.aload X641.here hx rfl (hb hby at_369) rfl rfl ?_
              show Steps p.tables e below (T641.setTop (mkF m 371 #[.val (.int p0), .val (.long q1), .second, .val (.long q2), .second, .val (.long q3), .second, .val (.int (p0 &&& (7 : Int32))), .val (.int (Int32.ofNat n)), .val (.ref b397), .val (.ref b449), .unset] [(.ref b397), (.int (8 : Int32)), (.ref b449)])) _
              refine XS.bipush X641.here hx rfl (hb hby at_371) ?_
              show Steps p.tables e below (T641.setTop (mkF m 373 #[.val (.int p0), .val (.long q1), .second, .val (.long q2), .second, .val (.long q3), .second, .val (.int (p0 &&& (7 : Int32))), .val (.int (Int32.ofNat n)), .val (.ref b397), .val (.ref b449), .unset] [(.int (8 : Int32)), (.ref b397), (.int (8 : Int32)), (.ref b449)])) _
              refine X641.caload hx (j := (8 : Int32)) (v := (.int (C.getD 8 0))) (by rw [e641]; exact Ar649.1) (State.isArrayOf_alike hZ.alike Ar649.2.1) Ar649.2.2 hin649 hat649 (g := (mkF m 373 #[.val (.int p0), .val (.long q1), .second, .val (.long q2), .second, .val (.long q3), .second, .val (.int (p0 &&& (7 : Int32))), .val (.int (Int32.ofNat n)), .val (.ref b397), .val (.ref b449), .unset] [(.int (8 : Int32)), (.ref b397), (.int (8 : Int32)), (.ref b449)])) rfl rfl (hb hby at_373) _ ?_
              show Steps p.tables e below (T641.setTop (mkF m 374 #[.val (.int p0), .val (.long q1), .second, .val (.long q2), .second, .val (.long q3), .second, .val (.int (p0 &&& (7 : Int32))), .val (.int (Int32.ofNat n)), .val (.ref b397), .val (.ref b449), .unset] [(.int (C.getD 8 0)), (.int (8 : Int32)), (.ref b449)])) _
              refine st651 _ ?_
              exact k
            have Vf655 := V651
            rw [own_cps C n 8 jk (by omega) hCb] at Vf655
            have Fc656 := (P641_0.wr W651)
            have Fc657 := (P641_1.wr W651)
            have Fc658 := (P641_2.wr W651)
            have Fc659 := (P641_3.wr W651)
            have Fc660 := (P641_4.wr W651)
            have Fc661 := (P641_5.other W651 (by omega : @Ne Nat b397 b449))
            exact ⟨_, _, _, X651, e651, N651, KC653, (by omega), Fc656, Fc657, Fc658, Fc659, Fc660, Fc661, Vf655, fun t kt => pre654 t kt⟩
          · have pre662 : ∀ t, Steps p.tables e below (T641.setTop (mkF m 375 #[.val (.int p0), .val (.long q1), .second, .val (.long q2), .second, .val (.long q3), .second, .val (.int (p0 &&& (7 : Int32))), .val (.int (Int32.ofNat n)), .val (.ref b397), .val (.ref b449), .unset] [])) t → Steps p.tables e below (T641.setTop (mkF m 358 #[.val (.int p0), .val (.long q1), .second, .val (.long q2), .second, .val (.long q3), .second, .val (.int (p0 &&& (7 : Int32))), .val (.int (Int32.ofNat n)), .val (.ref b397), .val (.ref b449), .unset] [])) t := fun t k => by
              refine pre647 _ ?_
              show Steps p.tables e below (T641.setTop (mkF m 362 #[.val (.int p0), .val (.long q1), .second, .val (.long q2), .second, .val (.long q3), .second, .val (.int (p0 &&& (7 : Int32))), .val (.int (Int32.ofNat n)), .val (.ref b397), .val (.ref b449), .unset] [(.int (8 : Int32)), (.int (Int32.ofNat n))])) _
              refine XS.icmpYes X641.here hx rfl (pc0 := 362) (pc' := 375) rfl (hb hby at_362) rfl (flt (hc648 : ¬ ((8 : Int32) < (Int32.ofNat n)))).2.2.2 (by decide) (by decide) ?_
              exact k
            have Vf663 := P641_6
            rw [own_cpe C n 8 (Nat.le_of_not_lt fun q => hc648 ((own_ltn (a := 8) (by omega) (by omega)).mpr q))] at Vf663
            exact ⟨_, _, _, X641, e641, N641, K641, (by omega), P641_0, P641_1, P641_2, P641_3, P641_4, P641_5, Vf663, fun t kt => pre662 t kt⟩
        obtain ⟨T664, L664, h664, X664, e664, N664, K664, z664, P664_0, P664_1, P664_2, P664_3, P664_4, P664_5, P664_6, st664⟩ := bk645
        have z665 : @LT.lt Nat _ b397 (Array.size h664) := P664_5.lt
        have z666 : @LT.lt Nat _ b449 (Array.size h664) := P664_6.lt
        have pre667 : ∀ t, Steps p.tables e below (T664.setTop (mkF m 375 #[.val (.int p0), .val (.long q1), .second, .val (.long q2), .second, .val (.long q3), .second, .val (.int (p0 &&& (7 : Int32))), .val (.int (Int32.ofNat n)), .val (.ref b397), .val (.ref b449), .unset] [])) t → Steps p.tables e below (s₁.setTop (entryFrame m #[(.int p0), (.long q1), (.long q2), (.long q3)] maxLocals)) t := fun t k => by
          refine pre644 _ ?_
          refine st664 _ ?_
          exact k
        have bk668 : ∃ (T' : State) (L' : List Loc) (h' : Heap), Stand p l e room_1 s m #[(.int p0), (.long q1), (.long q2), (.long q3)] below meth c T' L' 2 24 ∧ T'.heap = h' ∧ Fr h0.size L' ∧ Keep h0 h' [] ∧ @LE.le Nat _ (Array.size h664) (Array.size h') ∧ (Sta Z h' "java/lang/StringUTF16" "$assertionsDisabled" "Z" (.int (1 : Int32))) ∧ (Sta Z h' "java/lang/StringUTF16" "HI_BYTE_SHIFT" "I" (.int (0 : Int32))) ∧ (Sta Z h' "java/lang/StringUTF16" "LO_BYTE_SHIFT" "I" (.int (8 : Int32))) ∧ (Sta Z h' "java/lang/String" "COMPACT_STRINGS" "Z" (.int G1)) ∧ (Sta Z h' "jdk/internal/util/Preconditions" "SIOOBE_FORMATTER" "Ljava/util/function/BiFunction;" fm) ∧ (Arv Z h' b397 k397 .char (12 : Int32) (C.map Value.int) (.int (0 : Int32))) ∧ (Arv Z h' b449 k449 .char (Int32.ofNat n) (own_cp C n 10) (.int (0 : Int32))) ∧ (∀ t, Steps p.tables e below (T'.setTop (mkF m 392 #[.val (.int p0), .val (.long q1), .second, .val (.long q2), .second, .val (.long q3), .second, .val (.int (p0 &&& (7 : Int32))), .val (.int (Int32.ofNat n)), .val (.ref b397), .val (.ref b449), .unset] [])) t → Steps p.tables e below (T664.setTop (mkF m 375 #[.val (.int p0), .val (.long q1), .second, .val (.long q2), .second, .val (.long q3), .second, .val (.int (p0 &&& (7 : Int32))), .val (.int (Int32.ofNat n)), .val (.ref b397), .val (.ref b449), .unset] [])) t) := by
          have pre669 : ∀ t, Steps p.tables e below (T664.setTop (mkF m 375 #[.val (.int p0), .val (.long q1), .second, .val (.long q2), .second, .val (.long q3), .second, .val (.int (p0 &&& (7 : Int32))), .val (.int (Int32.ofNat n)), .val (.ref b397), .val (.ref b449), .unset] [])) t → Steps p.tables e below (T664.setTop (mkF m 375 #[.val (.int p0), .val (.long q1), .second, .val (.long q2), .second, .val (.long q3), .second, .val (.int (p0 &&& (7 : Int32))), .val (.int (Int32.ofNat n)), .val (.ref b397), .val (.ref b449), .unset] [])) t := fun t k => k
          have pre670 : ∀ t, Steps p.tables e below (T664.setTop (mkF m 379 #[.val (.int p0), .val (.long q1), .second, .val (.long q2), .second, .val (.long q3), .second, .val (.int (p0 &&& (7 : Int32))), .val (.int (Int32.ofNat n)), .val (.ref b397), .val (.ref b449), .unset] [(.int (9 : Int32)), (.int (Int32.ofNat n))])) t → Steps p.tables e below (T664.setTop (mkF m 375 #[.val (.int p0), .val (.long q1), .second, .val (.long q2), .second, .val (.long q3), .second, .val (.int (p0 &&& (7 : Int32))), .val (.int (Int32.ofNat n)), .val (.ref b397), .val (.ref b449), .unset] [])) t := fun t k => by
            refine pre669 _ ?_
            show Steps p.tables e below (T664.setTop (mkF m 375 #[.val (.int p0), .val (.long q1), .second, .val (.long q2), .second, .val (.long q3), .second, .val (.int (p0 &&& (7 : Int32))), .val (.int (Int32.ofNat n)), .val (.ref b397), .val (.ref b449), .unset] [])) _
            refine XS.iload X664.here hx rfl (hb hby at_375) rfl ?_
            show Steps p.tables e below (T664.setTop (mkF m 377 #[.val (.int p0), .val (.long q1), .second, .val (.long q2), .second, .val (.long q3), .second, .val (.int (p0 &&& (7 : Int32))), .val (.int (Int32.ofNat n)), .val (.ref b397), .val (.ref b449), .unset] [(.int (Int32.ofNat n))])) _
            refine XS.bipush X664.here hx rfl (hb hby at_377) ?_
            exact k
          by_cases hc671 : (9 : Int32) < (Int32.ofNat n)
          · obtain ⟨cl672, Ar672, q672, S672, N672', H672, G672⟩ := id P664_5
            have jk : 9 < n := (own_ltn (a := 9) (by omega) (by omega)).mp hc671
            have hin672 : ¬ ((9 : Int32) < 0 ∨ cl672.slots.size ≤ ((9 : Int32)).toNatClampNeg) := inb_of S672 (by decide)
            have hat672 : cl672.slots[((9 : Int32)).toNatClampNeg]? = some (.int (C.getD 9 0)) := H672.at hin672 (by rw [show (9 : Int32).toNatClampNeg = 9 from rfl]; simp [List.getD_eq_getElem?_getD, show 9 < C.length from by omega])
            obtain ⟨cl673, Ar673, q673, S673, N673', H673, G673⟩ := id P664_6
            have hin673 : ¬ ((9 : Int32) < 0 ∨ cl673.slots.size ≤ ((9 : Int32)).toNatClampNeg) := inb_of S673 (own_in (a := 9) (by omega) (by omega))
            obtain ⟨T674, h674, X674, e674, W674, st674⟩ := stC X664 hx hZ e664 Ar673 (j := (9 : Int32)) hin673 (g := (mkF m 391 #[.val (.int p0), .val (.long q1), .second, .val (.long q2), .second, .val (.long q3), .second, .val (.int (p0 &&& (7 : Int32))), .val (.int (Int32.ofNat n)), .val (.ref b397), .val (.ref b449), .unset] [(.int (C.getD 9 0)), (.int (9 : Int32)), (.ref b449)])) rfl rfl (hb hby at_391)
            have z675 := W674.size
            have N674 := Fr.snoc X674 N664 (by omega : h0.size ≤ b449)
            have KC676 : Keep h0 h674 [] := K664.wr W674 (Or.inr (by omega))
            have V674 : Arv Z h674 b449 k449 .char (Int32.ofNat n) (List.set (own_cp C n 9) (9) (.int (nar .char (C.getD 9 0)))) (.int (0 : Int32)) := Arv.set Ar673 q673 S673 N673' H673 G673 (fits_nar_char _) W674 (9) rfl (by rw [own_cpl C n 9 (by omega)]; exact jk)
            have pre677 : ∀ t, Steps p.tables e below (T674.setTop (mkF m 392 #[.val (.int p0), .val (.long q1), .second, .val (.long q2), .second, .val (.long q3), .second, .val (.int (p0 &&& (7 : Int32))), .val (.int (Int32.ofNat n)), .val (.ref b397), .val (.ref b449), .unset] [])) t → Steps p.tables e below (T664.setTop (mkF m 375 #[.val (.int p0), .val (.long q1), .second, .val (.long q2), .second, .val (.long q3), .second, .val (.int (p0 &&& (7 : Int32))), .val (.int (Int32.ofNat n)), .val (.ref b397), .val (.ref b449), .unset] [])) t := fun t k => by
              refine pre670 _ ?_
              show Steps p.tables e below (T664.setTop (mkF m 379 #[.val (.int p0), .val (.long q1), .second, .val (.long q2), .second, .val (.long q3), .second, .val (.int (p0 &&& (7 : Int32))), .val (.int (Int32.ofNat n)), .val (.ref b397), .val (.ref b449), .unset] [(.int (9 : Int32)), (.int (Int32.ofNat n))])) _
              refine XS.icmpNo X664.here hx rfl (hb hby at_379) rfl (tlt (hc671 : (9 : Int32) < (Int32.ofNat n))).2.2.2 ?_
              show Steps p.tables e below (T664.setTop (mkF m 382 #[.val (.int p0), .val (.long q1), .second, .val (.long q2), .second, .val (.long q3), .second, .val (.int (p0 &&& (7 : Int32))), .val (.int (Int32.ofNat n)), .val (.ref b397), .val (.ref b449), .unset] [])) _
              refine XS.aload X664.here hx rfl (hb hby at_382) rfl rfl ?_
              show Steps p.tables e below (T664.setTop (mkF m 384 #[.val (.int p0), .val (.long q1), .second, .val (.long q2), .second, .val (.long q3), .second, .val (.int (p0 &&& (7 : Int32))), .val (.int (Int32.ofNat n)), .val (.ref b397), .val (.ref b449), .unset] [(.ref b449)])) _
              refine XS.bipush X664.here hx rfl (hb hby at_384) ?_
              show Steps p.tables e below (T664.setTop (mkF m 386 #[.val (.int p0), .val (.long q1), .second, .val (.long q2), .second, .val (.long q3), .second, .val (.int (p0 &&& (7 : Int32))), .val (.int (Int32.ofNat n)), .val (.ref b397), .val (.ref b449), .unset] [(.int (9 : Int32)), (.ref b449)])) _
              refine XS.aload X664.here hx rfl (hb hby at_386) rfl rfl ?_
              show Steps p.tables e below (T664.setTop (mkF m 388 #[.val (.int p0), .val (.long q1), .second, .val (.long q2), .second, .val (.long q3), .second, .val (.int (p0 &&& (7 : Int32))), .val (.int (Int32.ofNat n)), .val (.ref b397), .val (.ref b449), .unset] [(.ref b397), (.int (9 : Int32)), (.ref b449)])) _
              refine XS.bipush X664.here hx rfl (hb hby at_388) ?_
              show Steps p.tables e below (T664.setTop (mkF m 390 #[.val (.int p0), .val (.long q1), .second, .val (.long q2), .second, .val (.long q3), .second, .val (.int (p0 &&& (7 : Int32))), .val (.int (Int32.ofNat n)), .val (.ref b397), .val (.ref b449), .unset] [(.int (9 : Int32)), (.ref b397), (.int (9 : Int32)), (.ref b449)])) _
              refine X664.caload hx (j := (9 : Int32)) (v := (.int (C.getD 9 0))) (by rw [e664]; exact Ar672.1) (State.isArrayOf_alike hZ.alike Ar672.2.1) Ar672.2.2 hin672 hat672 (g := (mkF m 390 #[.val (.int p0), .val (.long q1), .second, .val (.long q2), .second, .val (.long q3), .second, .val (.int (p0 &&& (7 : Int32))), .val (.int (Int32.ofNat n)), .val (.ref b397), .val (.ref b449), .unset] [(.int (9 : Int32)), (.ref b397), (.int (9 : Int32)), (.ref b449)])) rfl rfl (hb hby at_390) _ ?_
              show Steps p.tables e below (T664.setTop (mkF m 391 #[.val (.int p0), .val (.long q1), .second, .val (.long q2), .second, .val (.long q3), .second, .val (.int (p0 &&& (7 : Int32))), .val (.int (Int32.ofNat n)), .val (.ref b397), .val (.ref b449), .unset] [(.int (C.getD 9 0)), (.int (9 : Int32)), (.ref b449)])) _
              refine st674 _ ?_
              exact k
            have Vf678 := V674
            rw [own_cps C n 9 jk (by omega) hCb] at Vf678
            have Fc679 := (P664_0.wr W674)
            have Fc680 := (P664_1.wr W674)
            have Fc681 := (P664_2.wr W674)
            have Fc682 := (P664_3.wr W674)
            have Fc683 := (P664_4.wr W674)
            have Fc684 := (P664_5.other W674 (by omega : @Ne Nat b397 b449))
            exact ⟨_, _, _, X674, e674, N674, KC676, (by omega), Fc679, Fc680, Fc681, Fc682, Fc683, Fc684, Vf678, fun t kt => pre677 t kt⟩
          · have pre685 : ∀ t, Steps p.tables e below (T664.setTop (mkF m 392 #[.val (.int p0), .val (.long q1), .second, .val (.long q2), .second, .val (.long q3), .second, .val (.int (p0 &&& (7 : Int32))), .val (.int (Int32.ofNat n)), .val (.ref b397), .val (.ref b449), .unset] [])) t → Steps p.tables e below (T664.setTop (mkF m 375 #[.val (.int p0), .val (.long q1), .second, .val (.long q2), .second, .val (.long q3), .second, .val (.int (p0 &&& (7 : Int32))), .val (.int (Int32.ofNat n)), .val (.ref b397), .val (.ref b449), .unset] [])) t := fun t k => by
              refine pre670 _ ?_
              show Steps p.tables e below (T664.setTop (mkF m 379 #[.val (.int p0), .val (.long q1), .second, .val (.long q2), .second, .val (.long q3), .second, .val (.int (p0 &&& (7 : Int32))), .val (.int (Int32.ofNat n)), .val (.ref b397), .val (.ref b449), .unset] [(.int (9 : Int32)), (.int (Int32.ofNat n))])) _
              refine XS.icmpYes X664.here hx rfl (pc0 := 379) (pc' := 392) rfl (hb hby at_379) rfl (flt (hc671 : ¬ ((9 : Int32) < (Int32.ofNat n)))).2.2.2 (by decide) (by decide) ?_
              exact k
            have Vf686 := P664_6
            rw [own_cpe C n 9 (Nat.le_of_not_lt fun q => hc671 ((own_ltn (a := 9) (by omega) (by omega)).mpr q))] at Vf686
            exact ⟨_, _, _, X664, e664, N664, K664, (by omega), P664_0, P664_1, P664_2, P664_3, P664_4, P664_5, Vf686, fun t kt => pre685 t kt⟩
        obtain ⟨T687, L687, h687, X687, e687, N687, K687, z687, P687_0, P687_1, P687_2, P687_3, P687_4, P687_5, P687_6, st687⟩ := bk668
        have z688 : @LT.lt Nat _ b397 (Array.size h687) := P687_5.lt
        have z689 : @LT.lt Nat _ b449 (Array.size h687) := P687_6.lt
        have pre690 : ∀ t, Steps p.tables e below (T687.setTop (mkF m 392 #[.val (.int p0), .val (.long q1), .second, .val (.long q2), .second, .val (.long q3), .second, .val (.int (p0 &&& (7 : Int32))), .val (.int (Int32.ofNat n)), .val (.ref b397), .val (.ref b449), .unset] [])) t → Steps p.tables e below (s₁.setTop (entryFrame m #[(.int p0), (.long q1), (.long q2), (.long q3)] maxLocals)) t := fun t k => by
          refine pre667 _ ?_
          refine st687 _ ?_
          exact k
        have bk691 : ∃ (T' : State) (L' : List Loc) (h' : Heap), Stand p l e room_1 s m #[(.int p0), (.long q1), (.long q2), (.long q3)] below meth c T' L' 2 24 ∧ T'.heap = h' ∧ Fr h0.size L' ∧ Keep h0 h' [] ∧ @LE.le Nat _ (Array.size h687) (Array.size h') ∧ (Sta Z h' "java/lang/StringUTF16" "$assertionsDisabled" "Z" (.int (1 : Int32))) ∧ (Sta Z h' "java/lang/StringUTF16" "HI_BYTE_SHIFT" "I" (.int (0 : Int32))) ∧ (Sta Z h' "java/lang/StringUTF16" "LO_BYTE_SHIFT" "I" (.int (8 : Int32))) ∧ (Sta Z h' "java/lang/String" "COMPACT_STRINGS" "Z" (.int G1)) ∧ (Sta Z h' "jdk/internal/util/Preconditions" "SIOOBE_FORMATTER" "Ljava/util/function/BiFunction;" fm) ∧ (Arv Z h' b397 k397 .char (12 : Int32) (C.map Value.int) (.int (0 : Int32))) ∧ (Arv Z h' b449 k449 .char (Int32.ofNat n) (own_cp C n 11) (.int (0 : Int32))) ∧ (∀ t, Steps p.tables e below (T'.setTop (mkF m 409 #[.val (.int p0), .val (.long q1), .second, .val (.long q2), .second, .val (.long q3), .second, .val (.int (p0 &&& (7 : Int32))), .val (.int (Int32.ofNat n)), .val (.ref b397), .val (.ref b449), .unset] [])) t → Steps p.tables e below (T687.setTop (mkF m 392 #[.val (.int p0), .val (.long q1), .second, .val (.long q2), .second, .val (.long q3), .second, .val (.int (p0 &&& (7 : Int32))), .val (.int (Int32.ofNat n)), .val (.ref b397), .val (.ref b449), .unset] [])) t) := by
          have pre692 : ∀ t, Steps p.tables e below (T687.setTop (mkF m 392 #[.val (.int p0), .val (.long q1), .second, .val (.long q2), .second, .val (.long q3), .second, .val (.int (p0 &&& (7 : Int32))), .val (.int (Int32.ofNat n)), .val (.ref b397), .val (.ref b449), .unset] [])) t → Steps p.tables e below (T687.setTop (mkF m 392 #[.val (.int p0), .val (.long q1), .second, .val (.long q2), .second, .val (.long q3), .second, .val (.int (p0 &&& (7 : Int32))), .val (.int (Int32.ofNat n)), .val (.ref b397), .val (.ref b449), .unset] [])) t := fun t k => k
          have pre693 : ∀ t, Steps p.tables e below (T687.setTop (mkF m 396 #[.val (.int p0), .val (.long q1), .second, .val (.long q2), .second, .val (.long q3), .second, .val (.int (p0 &&& (7 : Int32))), .val (.int (Int32.ofNat n)), .val (.ref b397), .val (.ref b449), .unset] [(.int (10 : Int32)), (.int (Int32.ofNat n))])) t → Steps p.tables e below (T687.setTop (mkF m 392 #[.val (.int p0), .val (.long q1), .second, .val (.long q2), .second, .val (.long q3), .second, .val (.int (p0 &&& (7 : Int32))), .val (.int (Int32.ofNat n)), .val (.ref b397), .val (.ref b449), .unset] [])) t := fun t k => by
            refine pre692 _ ?_
            show Steps p.tables e below (T687.setTop (mkF m 392 #[.val (.int p0), .val (.long q1), .second, .val (.long q2), .second, .val (.long q3), .second, .val (.int (p0 &&& (7 : Int32))), .val (.int (Int32.ofNat n)), .val (.ref b397), .val (.ref b449), .unset] [])) _
            refine XS.iload X687.here hx rfl (hb hby at_392) rfl ?_
            show Steps p.tables e below (T687.setTop (mkF m 394 #[.val (.int p0), .val (.long q1), .second, .val (.long q2), .second, .val (.long q3), .second, .val (.int (p0 &&& (7 : Int32))), .val (.int (Int32.ofNat n)), .val (.ref b397), .val (.ref b449), .unset] [(.int (Int32.ofNat n))])) _
            refine XS.bipush X687.here hx rfl (hb hby at_394) ?_
            exact k
          by_cases hc694 : (10 : Int32) < (Int32.ofNat n)
          · obtain ⟨cl695, Ar695, q695, S695, N695', H695, G695⟩ := id P687_5
            have jk : 10 < n := (own_ltn (a := 10) (by omega) (by omega)).mp hc694
            have hin695 : ¬ ((10 : Int32) < 0 ∨ cl695.slots.size ≤ ((10 : Int32)).toNatClampNeg) := inb_of S695 (by decide)
            have hat695 : cl695.slots[((10 : Int32)).toNatClampNeg]? = some (.int (C.getD 10 0)) := H695.at hin695 (by rw [show (10 : Int32).toNatClampNeg = 10 from rfl]; simp [List.getD_eq_getElem?_getD, show 10 < C.length from by omega])
            obtain ⟨cl696, Ar696, q696, S696, N696', H696, G696⟩ := id P687_6
            have hin696 : ¬ ((10 : Int32) < 0 ∨ cl696.slots.size ≤ ((10 : Int32)).toNatClampNeg) := inb_of S696 (own_in (a := 10) (by omega) (by omega))
            obtain ⟨T697, h697, X697, e697, W697, st697⟩ := stC X687 hx hZ e687 Ar696 (j := (10 : Int32)) hin696 (g := (mkF m 408 #[.val (.int p0), .val (.long q1), .second, .val (.long q2), .second, .val (.long q3), .second, .val (.int (p0 &&& (7 : Int32))), .val (.int (Int32.ofNat n)), .val (.ref b397), .val (.ref b449), .unset] [(.int (C.getD 10 0)), (.int (10 : Int32)), (.ref b449)])) rfl rfl (hb hby at_408)
            have z698 := W697.size
            have N697 := Fr.snoc X697 N687 (by omega : h0.size ≤ b449)
            have KC699 : Keep h0 h697 [] := K687.wr W697 (Or.inr (by omega))
            have V697 : Arv Z h697 b449 k449 .char (Int32.ofNat n) (List.set (own_cp C n 10) (10) (.int (nar .char (C.getD 10 0)))) (.int (0 : Int32)) := Arv.set Ar696 q696 S696 N696' H696 G696 (fits_nar_char _) W697 (10) rfl (by rw [own_cpl C n 10 (by omega)]; exact jk)
            have pre700 : ∀ t, Steps p.tables e below (T697.setTop (mkF m 409 #[.val (.int p0), .val (.long q1), .second, .val (.long q2), .second, .val (.long q3), .second, .val (.int (p0 &&& (7 : Int32))), .val (.int (Int32.ofNat n)), .val (.ref b397), .val (.ref b449), .unset] [])) t → Steps p.tables e below (T687.setTop (mkF m 392 #[.val (.int p0), .val (.long q1), .second, .val (.long q2), .second, .val (.long q3), .second, .val (.int (p0 &&& (7 : Int32))), .val (.int (Int32.ofNat n)), .val (.ref b397), .val (.ref b449), .unset] [])) t := fun t k => by
              refine pre693 _ ?_
              show Steps p.tables e below (T687.setTop (mkF m 396 #[.val (.int p0), .val (.long q1), .second, .val (.long q2), .second, .val (.long q3), .second, .val (.int (p0 &&& (7 : Int32))), .val (.int (Int32.ofNat n)), .val (.ref b397), .val (.ref b449), .unset] [(.int (10 : Int32)), (.int (Int32.ofNat n))])) _
              refine XS.icmpNo X687.here hx rfl (hb hby at_396) rfl (tlt (hc694 : (10 : Int32) < (Int32.ofNat n))).2.2.2 ?_
              show Steps p.tables e below (T687.setTop (mkF m 399 #[.val (.int p0), .val (.long q1), .second, .val (.long q2), .second, .val (.long q3), .second, .val (.int (p0 &&& (7 : Int32))), .val (.int (Int32.ofNat n)), .val (.ref b397), .val (.ref b449), .unset] [])) _
              refine XS.aload X687.here hx rfl (hb hby at_399) rfl rfl ?_
              show Steps p.tables e below (T687.setTop (mkF m 401 #[.val (.int p0), .val (.long q1), .second, .val (.long q2), .second, .val (.long q3), .second, .val (.int (p0 &&& (7 : Int32))), .val (.int (Int32.ofNat n)), .val (.ref b397), .val (.ref b449), .unset] [(.ref b449)])) _
              refine XS.bipush X687.here hx rfl (hb hby at_401) ?_
              show Steps p.tables e below (T687.setTop (mkF m 403 #[.val (.int p0), .val (.long q1), .second, .val (.long q2), .second, .val (.long q3), .second, .val (.int (p0 &&& (7 : Int32))), .val (.int (Int32.ofNat n)), .val (.ref b397), .val (.ref b449), .unset] [(.int (10 : Int32)), (.ref b449)])) _
              refine XS.aload X687.here hx rfl (hb hby at_403) rfl rfl ?_
              show Steps p.tables e below (T687.setTop (mkF m 405 #[.val (.int p0), .val (.long q1), .second, .val (.long q2), .second, .val (.long q3), .second, .val (.int (p0 &&& (7 : Int32))), .val (.int (Int32.ofNat n)), .val (.ref b397), .val (.ref b449), .unset] [(.ref b397), (.int (10 : Int32)), (.ref b449)])) _
              refine XS.bipush X687.here hx rfl (hb hby at_405) ?_
              show Steps p.tables e below (T687.setTop (mkF m 407 #[.val (.int p0), .val (.long q1), .second, .val (.long q2), .second, .val (.long q3), .second, .val (.int (p0 &&& (7 : Int32))), .val (.int (Int32.ofNat n)), .val (.ref b397), .val (.ref b449), .unset] [(.int (10 : Int32)), (.ref b397), (.int (10 : Int32)), (.ref b449)])) _
              refine X687.caload hx (j := (10 : Int32)) (v := (.int (C.getD 10 0))) (by rw [e687]; exact Ar695.1) (State.isArrayOf_alike hZ.alike Ar695.2.1) Ar695.2.2 hin695 hat695 (g := (mkF m 407 #[.val (.int p0), .val (.long q1), .second, .val (.long q2), .second, .val (.long q3), .second, .val (.int (p0 &&& (7 : Int32))), .val (.int (Int32.ofNat n)), .val (.ref b397), .val (.ref b449), .unset] [(.int (10 : Int32)), (.ref b397), (.int (10 : Int32)), (.ref b449)])) rfl rfl (hb hby at_407) _ ?_
              show Steps p.tables e below (T687.setTop (mkF m 408 #[.val (.int p0), .val (.long q1), .second, .val (.long q2), .second, .val (.long q3), .second, .val (.int (p0 &&& (7 : Int32))), .val (.int (Int32.ofNat n)), .val (.ref b397), .val (.ref b449), .unset] [(.int (C.getD 10 0)), (.int (10 : Int32)), (.ref b449)])) _
              refine st697 _ ?_
              exact k
            have Vf701 := V697
            rw [own_cps C n 10 jk (by omega) hCb] at Vf701
            have Fc702 := (P687_0.wr W697)
            have Fc703 := (P687_1.wr W697)
            have Fc704 := (P687_2.wr W697)
            have Fc705 := (P687_3.wr W697)
            have Fc706 := (P687_4.wr W697)
            have Fc707 := (P687_5.other W697 (by omega : @Ne Nat b397 b449))
            exact ⟨_, _, _, X697, e697, N697, KC699, (by omega), Fc702, Fc703, Fc704, Fc705, Fc706, Fc707, Vf701, fun t kt => pre700 t kt⟩
          · have pre708 : ∀ t, Steps p.tables e below (T687.setTop (mkF m 409 #[.val (.int p0), .val (.long q1), .second, .val (.long q2), .second, .val (.long q3), .second, .val (.int (p0 &&& (7 : Int32))), .val (.int (Int32.ofNat n)), .val (.ref b397), .val (.ref b449), .unset] [])) t → Steps p.tables e below (T687.setTop (mkF m 392 #[.val (.int p0), .val (.long q1), .second, .val (.long q2), .second, .val (.long q3), .second, .val (.int (p0 &&& (7 : Int32))), .val (.int (Int32.ofNat n)), .val (.ref b397), .val (.ref b449), .unset] [])) t := fun t k => by
              refine pre693 _ ?_
              show Steps p.tables e below (T687.setTop (mkF m 396 #[.val (.int p0), .val (.long q1), .second, .val (.long q2), .second, .val (.long q3), .second, .val (.int (p0 &&& (7 : Int32))), .val (.int (Int32.ofNat n)), .val (.ref b397), .val (.ref b449), .unset] [(.int (10 : Int32)), (.int (Int32.ofNat n))])) _
              refine XS.icmpYes X687.here hx rfl (pc0 := 396) (pc' := 409) rfl (hb hby at_396) rfl (flt (hc694 : ¬ ((10 : Int32) < (Int32.ofNat n)))).2.2.2 (by decide) (by decide) ?_
              exact k
            have Vf709 := P687_6
            rw [own_cpe C n 10 (Nat.le_of_not_lt fun q => hc694 ((own_ltn (a := 10) (by omega) (by omega)).mpr q))] at Vf709
            exact ⟨_, _, _, X687, e687, N687, K687, (by omega), P687_0, P687_1, P687_2, P687_3, P687_4, P687_5, Vf709, fun t kt => pre708 t kt⟩
        obtain ⟨T710, L710, h710, X710, e710, N710, K710, z710, P710_0, P710_1, P710_2, P710_3, P710_4, P710_5, P710_6, st710⟩ := bk691
        have z711 : @LT.lt Nat _ b397 (Array.size h710) := P710_5.lt
        have z712 : @LT.lt Nat _ b449 (Array.size h710) := P710_6.lt
        have pre713 : ∀ t, Steps p.tables e below (T710.setTop (mkF m 409 #[.val (.int p0), .val (.long q1), .second, .val (.long q2), .second, .val (.long q3), .second, .val (.int (p0 &&& (7 : Int32))), .val (.int (Int32.ofNat n)), .val (.ref b397), .val (.ref b449), .unset] [])) t → Steps p.tables e below (s₁.setTop (entryFrame m #[(.int p0), (.long q1), (.long q2), (.long q3)] maxLocals)) t := fun t k => by
          refine pre690 _ ?_
          refine st710 _ ?_
          exact k
        have bk714 : ∃ (T' : State) (L' : List Loc) (h' : Heap), Stand p l e room_1 s m #[(.int p0), (.long q1), (.long q2), (.long q3)] below meth c T' L' 2 24 ∧ T'.heap = h' ∧ Fr h0.size L' ∧ Keep h0 h' [] ∧ @LE.le Nat _ (Array.size h710) (Array.size h') ∧ (Sta Z h' "java/lang/StringUTF16" "$assertionsDisabled" "Z" (.int (1 : Int32))) ∧ (Sta Z h' "java/lang/StringUTF16" "HI_BYTE_SHIFT" "I" (.int (0 : Int32))) ∧ (Sta Z h' "java/lang/StringUTF16" "LO_BYTE_SHIFT" "I" (.int (8 : Int32))) ∧ (Sta Z h' "java/lang/String" "COMPACT_STRINGS" "Z" (.int G1)) ∧ (Sta Z h' "jdk/internal/util/Preconditions" "SIOOBE_FORMATTER" "Ljava/util/function/BiFunction;" fm) ∧ (Arv Z h' b397 k397 .char (12 : Int32) (C.map Value.int) (.int (0 : Int32))) ∧ (Arv Z h' b449 k449 .char (Int32.ofNat n) (own_cp C n 12) (.int (0 : Int32))) ∧ (∀ t, Steps p.tables e below (T'.setTop (mkF m 426 #[.val (.int p0), .val (.long q1), .second, .val (.long q2), .second, .val (.long q3), .second, .val (.int (p0 &&& (7 : Int32))), .val (.int (Int32.ofNat n)), .val (.ref b397), .val (.ref b449), .unset] [])) t → Steps p.tables e below (T710.setTop (mkF m 409 #[.val (.int p0), .val (.long q1), .second, .val (.long q2), .second, .val (.long q3), .second, .val (.int (p0 &&& (7 : Int32))), .val (.int (Int32.ofNat n)), .val (.ref b397), .val (.ref b449), .unset] [])) t) := by
          have pre715 : ∀ t, Steps p.tables e below (T710.setTop (mkF m 409 #[.val (.int p0), .val (.long q1), .second, .val (.long q2), .second, .val (.long q3), .second, .val (.int (p0 &&& (7 : Int32))), .val (.int (Int32.ofNat n)), .val (.ref b397), .val (.ref b449), .unset] [])) t → Steps p.tables e below (T710.setTop (mkF m 409 #[.val (.int p0), .val (.long q1), .second, .val (.long q2), .second, .val (.long q3), .second, .val (.int (p0 &&& (7 : Int32))), .val (.int (Int32.ofNat n)), .val (.ref b397), .val (.ref b449), .unset] [])) t := fun t k => k
          have pre716 : ∀ t, Steps p.tables e below (T710.setTop (mkF m 413 #[.val (.int p0), .val (.long q1), .second, .val (.long q2), .second, .val (.long q3), .second, .val (.int (p0 &&& (7 : Int32))), .val (.int (Int32.ofNat n)), .val (.ref b397), .val (.ref b449), .unset] [(.int (11 : Int32)), (.int (Int32.ofNat n))])) t → Steps p.tables e below (T710.setTop (mkF m 409 #[.val (.int p0), .val (.long q1), .second, .val (.long q2), .second, .val (.long q3), .second, .val (.int (p0 &&& (7 : Int32))), .val (.int (Int32.ofNat n)), .val (.ref b397), .val (.ref b449), .unset] [])) t := fun t k => by
            refine pre715 _ ?_
            show Steps p.tables e below (T710.setTop (mkF m 409 #[.val (.int p0), .val (.long q1), .second, .val (.long q2), .second, .val (.long q3), .second, .val (.int (p0 &&& (7 : Int32))), .val (.int (Int32.ofNat n)), .val (.ref b397), .val (.ref b449), .unset] [])) _
            refine XS.iload X710.here hx rfl (hb hby at_409) rfl ?_
            show Steps p.tables e below (T710.setTop (mkF m 411 #[.val (.int p0), .val (.long q1), .second, .val (.long q2), .second, .val (.long q3), .second, .val (.int (p0 &&& (7 : Int32))), .val (.int (Int32.ofNat n)), .val (.ref b397), .val (.ref b449), .unset] [(.int (Int32.ofNat n))])) _
            refine XS.bipush X710.here hx rfl (hb hby at_411) ?_
            exact k
          by_cases hc717 : (11 : Int32) < (Int32.ofNat n)
          · obtain ⟨cl718, Ar718, q718, S718, N718', H718, G718⟩ := id P710_5
            have jk : 11 < n := (own_ltn (a := 11) (by omega) (by omega)).mp hc717
            have hin718 : ¬ ((11 : Int32) < 0 ∨ cl718.slots.size ≤ ((11 : Int32)).toNatClampNeg) := inb_of S718 (by decide)
            have hat718 : cl718.slots[((11 : Int32)).toNatClampNeg]? = some (.int (C.getD 11 0)) := H718.at hin718 (by rw [show (11 : Int32).toNatClampNeg = 11 from rfl]; simp [List.getD_eq_getElem?_getD, show 11 < C.length from by omega])
            obtain ⟨cl719, Ar719, q719, S719, N719', H719, G719⟩ := id P710_6
            have hin719 : ¬ ((11 : Int32) < 0 ∨ cl719.slots.size ≤ ((11 : Int32)).toNatClampNeg) := inb_of S719 (own_in (a := 11) (by omega) (by omega))
            obtain ⟨T720, h720, X720, e720, W720, st720⟩ := stC X710 hx hZ e710 Ar719 (j := (11 : Int32)) hin719 (g := (mkF m 425 #[.val (.int p0), .val (.long q1), .second, .val (.long q2), .second, .val (.long q3), .second, .val (.int (p0 &&& (7 : Int32))), .val (.int (Int32.ofNat n)), .val (.ref b397), .val (.ref b449), .unset] [(.int (C.getD 11 0)), (.int (11 : Int32)), (.ref b449)])) rfl rfl (hb hby at_425)
            have z721 := W720.size
            have N720 := Fr.snoc X720 N710 (by omega : h0.size ≤ b449)
            have KC722 : Keep h0 h720 [] := K710.wr W720 (Or.inr (by omega))
            have V720 : Arv Z h720 b449 k449 .char (Int32.ofNat n) (List.set (own_cp C n 11) (11) (.int (nar .char (C.getD 11 0)))) (.int (0 : Int32)) := Arv.set Ar719 q719 S719 N719' H719 G719 (fits_nar_char _) W720 (11) rfl (by rw [own_cpl C n 11 (by omega)]; exact jk)
            have pre723 : ∀ t, Steps p.tables e below (T720.setTop (mkF m 426 #[.val (.int p0), .val (.long q1), .second, .val (.long q2), .second, .val (.long q3), .second, .val (.int (p0 &&& (7 : Int32))), .val (.int (Int32.ofNat n)), .val (.ref b397), .val (.ref b449), .unset] [])) t → Steps p.tables e below (T710.setTop (mkF m 409 #[.val (.int p0), .val (.long q1), .second, .val (.long q2), .second, .val (.long q3), .second, .val (.int (p0 &&& (7 : Int32))), .val (.int (Int32.ofNat n)), .val (.ref b397), .val (.ref b449), .unset] [])) t := fun t k => by
              refine pre716 _ ?_
              show Steps p.tables e below (T710.setTop (mkF m 413 #[.val (.int p0), .val (.long q1), .second, .val (.long q2), .second, .val (.long q3), .second, .val (.int (p0 &&& (7 : Int32))), .val (.int (Int32.ofNat n)), .val (.ref b397), .val (.ref b449), .unset] [(.int (11 : Int32)), (.int (Int32.ofNat n))])) _
              refine XS.icmpNo X710.here hx rfl (hb hby at_413) rfl (tlt (hc717 : (11 : Int32) < (Int32.ofNat n))).2.2.2 ?_
              show Steps p.tables e below (T710.setTop (mkF m 416 #[.val (.int p0), .val (.long q1), .second, .val (.long q2), .second, .val (.long q3), .second, .val (.int (p0 &&& (7 : Int32))), .val (.int (Int32.ofNat n)), .val (.ref b397), .val (.ref b449), .unset] [])) _
              refine XS.aload X710.here hx rfl (hb hby at_416) rfl rfl ?_
              show Steps p.tables e below (T710.setTop (mkF m 418 #[.val (.int p0), .val (.long q1), .second, .val (.long q2), .second, .val (.long q3), .second, .val (.int (p0 &&& (7 : Int32))), .val (.int (Int32.ofNat n)), .val (.ref b397), .val (.ref b449), .unset] [(.ref b449)])) _
              refine XS.bipush X710.here hx rfl (hb hby at_418) ?_
              show Steps p.tables e below (T710.setTop (mkF m 420 #[.val (.int p0), .val (.long q1), .second, .val (.long q2), .second, .val (.long q3), .second, .val (.int (p0 &&& (7 : Int32))), .val (.int (Int32.ofNat n)), .val (.ref b397), .val (.ref b449), .unset] [(.int (11 : Int32)), (.ref b449)])) _
              refine XS.aload X710.here hx rfl (hb hby at_420) rfl rfl ?_
              show Steps p.tables e below (T710.setTop (mkF m 422 #[.val (.int p0), .val (.long q1), .second, .val (.long q2), .second, .val (.long q3), .second, .val (.int (p0 &&& (7 : Int32))), .val (.int (Int32.ofNat n)), .val (.ref b397), .val (.ref b449), .unset] [(.ref b397), (.int (11 : Int32)), (.ref b449)])) _
              refine XS.bipush X710.here hx rfl (hb hby at_422) ?_
              show Steps p.tables e below (T710.setTop (mkF m 424 #[.val (.int p0), .val (.long q1), .second, .val (.long q2), .second, .val (.long q3), .second, .val (.int (p0 &&& (7 : Int32))), .val (.int (Int32.ofNat n)), .val (.ref b397), .val (.ref b449), .unset] [(.int (11 : Int32)), (.ref b397), (.int (11 : Int32)), (.ref b449)])) _
              refine X710.caload hx (j := (11 : Int32)) (v := (.int (C.getD 11 0))) (by rw [e710]; exact Ar718.1) (State.isArrayOf_alike hZ.alike Ar718.2.1) Ar718.2.2 hin718 hat718 (g := (mkF m 424 #[.val (.int p0), .val (.long q1), .second, .val (.long q2), .second, .val (.long q3), .second, .val (.int (p0 &&& (7 : Int32))), .val (.int (Int32.ofNat n)), .val (.ref b397), .val (.ref b449), .unset] [(.int (11 : Int32)), (.ref b397), (.int (11 : Int32)), (.ref b449)])) rfl rfl (hb hby at_424) _ ?_
              show Steps p.tables e below (T710.setTop (mkF m 425 #[.val (.int p0), .val (.long q1), .second, .val (.long q2), .second, .val (.long q3), .second, .val (.int (p0 &&& (7 : Int32))), .val (.int (Int32.ofNat n)), .val (.ref b397), .val (.ref b449), .unset] [(.int (C.getD 11 0)), (.int (11 : Int32)), (.ref b449)])) _
              refine st720 _ ?_
              exact k
            have Vf724 := V720
            rw [own_cps C n 11 jk (by omega) hCb] at Vf724
            have Fc725 := (P710_0.wr W720)
            have Fc726 := (P710_1.wr W720)
            have Fc727 := (P710_2.wr W720)
            have Fc728 := (P710_3.wr W720)
            have Fc729 := (P710_4.wr W720)
            have Fc730 := (P710_5.other W720 (by omega : @Ne Nat b397 b449))
            exact ⟨_, _, _, X720, e720, N720, KC722, (by omega), Fc725, Fc726, Fc727, Fc728, Fc729, Fc730, Vf724, fun t kt => pre723 t kt⟩
          · have pre731 : ∀ t, Steps p.tables e below (T710.setTop (mkF m 426 #[.val (.int p0), .val (.long q1), .second, .val (.long q2), .second, .val (.long q3), .second, .val (.int (p0 &&& (7 : Int32))), .val (.int (Int32.ofNat n)), .val (.ref b397), .val (.ref b449), .unset] [])) t → Steps p.tables e below (T710.setTop (mkF m 409 #[.val (.int p0), .val (.long q1), .second, .val (.long q2), .second, .val (.long q3), .second, .val (.int (p0 &&& (7 : Int32))), .val (.int (Int32.ofNat n)), .val (.ref b397), .val (.ref b449), .unset] [])) t := fun t k => by
              refine pre716 _ ?_
              show Steps p.tables e below (T710.setTop (mkF m 413 #[.val (.int p0), .val (.long q1), .second, .val (.long q2), .second, .val (.long q3), .second, .val (.int (p0 &&& (7 : Int32))), .val (.int (Int32.ofNat n)), .val (.ref b397), .val (.ref b449), .unset] [(.int (11 : Int32)), (.int (Int32.ofNat n))])) _
              refine XS.icmpYes X710.here hx rfl (pc0 := 413) (pc' := 426) rfl (hb hby at_413) rfl (flt (hc717 : ¬ ((11 : Int32) < (Int32.ofNat n)))).2.2.2 (by decide) (by decide) ?_
              exact k
            have Vf732 := P710_6
            rw [own_cpe C n 11 (Nat.le_of_not_lt fun q => hc717 ((own_ltn (a := 11) (by omega) (by omega)).mpr q))] at Vf732
            exact ⟨_, _, _, X710, e710, N710, K710, (by omega), P710_0, P710_1, P710_2, P710_3, P710_4, P710_5, Vf732, fun t kt => pre731 t kt⟩
        obtain ⟨T733, L733, h733, X733, e733, N733, K733, z733, P733_0, P733_1, P733_2, P733_3, P733_4, P733_5, P733_6, st733⟩ := bk714
        have z734 : @LT.lt Nat _ b397 (Array.size h733) := P733_5.lt
        have z735 : @LT.lt Nat _ b449 (Array.size h733) := P733_6.lt
        have Vd := P733_6
        rw [own_cpn C n hn] at Vd
        obtain ⟨cs, gcs⟩ : ∃ cs : List Int32, cs = C.take n := ⟨_, rfl⟩
        have ecs : cs.length = n := by rw [gcs, List.length_take]; omega
        have hcs : own_bd cs := fun c hc => hCb c (List.mem_of_mem_take (by rw [← gcs]; exact hc))
        have Ve : Arv Z h733 b449 k449 .char (Int32.ofNat cs.length) (cs.map Value.int) (.int (0 : Int32)) := by rw [ecs, gcs]; exact Vd
        have pre736 : ∀ t, Steps p.tables e below (T733.setTop (mkF m 426 #[.val (.int p0), .val (.long q1), .second, .val (.long q2), .second, .val (.long q3), .second, .val (.int (p0 &&& (7 : Int32))), .val (.int (Int32.ofNat n)), .val (.ref b397), .val (.ref b449), .unset] [])) t → Steps p.tables e below (s₁.setTop (entryFrame m #[(.int p0), (.long q1), (.long q2), (.long q3)] maxLocals)) t := fun t k => by
          refine pre713 _ ?_
          refine st733 _ ?_
          exact k
        have bk737 : ∃ (T' : State) (L' : List Loc), Stand p l e room_1 s m #[(.int p0), (.long q1), (.long q2), (.long q3)] below meth c T' L' 2 24 ∧ T'.heap = h733 ∧ Fr h0.size L' ∧ (∀ t, Steps p.tables e below (T'.setTop (mkF m 577 #[.val (.int p0), .val (.long q1), .second, .val (.long q2), .second, .val (.long q3), .second, .val (.int (p0 &&& (7 : Int32))), .val (.int (Int32.ofNat n)), .val (.ref b397), .val (.ref b449), .val (.int (bi (own_val cs)))] [])) t → Steps p.tables e below (T733.setTop (mkF m 426 #[.val (.int p0), .val (.long q1), .second, .val (.long q2), .second, .val (.long q3), .second, .val (.int (p0 &&& (7 : Int32))), .val (.int (Int32.ofNat n)), .val (.ref b397), .val (.ref b449), .unset] [])) t) := by
          have pre738 : ∀ t, Steps p.tables e below (T733.setTop (mkF m 426 #[.val (.int p0), .val (.long q1), .second, .val (.long q2), .second, .val (.long q3), .second, .val (.int (p0 &&& (7 : Int32))), .val (.int (Int32.ofNat n)), .val (.ref b397), .val (.ref b449), .unset] [])) t → Steps p.tables e below (T733.setTop (mkF m 426 #[.val (.int p0), .val (.long q1), .second, .val (.long q2), .second, .val (.long q3), .second, .val (.int (p0 &&& (7 : Int32))), .val (.int (Int32.ofNat n)), .val (.ref b397), .val (.ref b449), .unset] [])) t := fun t k => k
          have pre739 : ∀ t, Steps p.tables e below (T733.setTop (mkF m 429 #[.val (.int p0), .val (.long q1), .second, .val (.long q2), .second, .val (.long q3), .second, .val (.int (p0 &&& (7 : Int32))), .val (.int (Int32.ofNat n)), .val (.ref b397), .val (.ref b449), .unset] [(.int (1 : Int32)), (.int (Int32.ofNat n))])) t → Steps p.tables e below (T733.setTop (mkF m 426 #[.val (.int p0), .val (.long q1), .second, .val (.long q2), .second, .val (.long q3), .second, .val (.int (p0 &&& (7 : Int32))), .val (.int (Int32.ofNat n)), .val (.ref b397), .val (.ref b449), .unset] [])) t := fun t k => by
            refine pre738 _ ?_
            show Steps p.tables e below (T733.setTop (mkF m 426 #[.val (.int p0), .val (.long q1), .second, .val (.long q2), .second, .val (.long q3), .second, .val (.int (p0 &&& (7 : Int32))), .val (.int (Int32.ofNat n)), .val (.ref b397), .val (.ref b449), .unset] [])) _
            refine XS.iload X733.here hx rfl (hb hby at_426) rfl ?_
            show Steps p.tables e below (T733.setTop (mkF m 428 #[.val (.int p0), .val (.long q1), .second, .val (.long q2), .second, .val (.long q3), .second, .val (.int (p0 &&& (7 : Int32))), .val (.int (Int32.ofNat n)), .val (.ref b397), .val (.ref b449), .unset] [(.int (Int32.ofNat n))])) _
            refine XS.iconst X733.here hx rfl (hb hby at_428) ?_
            exact k
          by_cases hc740 : (Int32.ofNat n) < (1 : Int32)
          · have pre741 : ∀ t, Steps p.tables e below (T733.setTop (mkF m 577 #[.val (.int p0), .val (.long q1), .second, .val (.long q2), .second, .val (.long q3), .second, .val (.int (p0 &&& (7 : Int32))), .val (.int (Int32.ofNat n)), .val (.ref b397), .val (.ref b449), .val (.int (0 : Int32))] [])) t → Steps p.tables e below (T733.setTop (mkF m 426 #[.val (.int p0), .val (.long q1), .second, .val (.long q2), .second, .val (.long q3), .second, .val (.int (p0 &&& (7 : Int32))), .val (.int (Int32.ofNat n)), .val (.ref b397), .val (.ref b449), .unset] [])) t := fun t k => by
              refine pre739 _ ?_
              show Steps p.tables e below (T733.setTop (mkF m 429 #[.val (.int p0), .val (.long q1), .second, .val (.long q2), .second, .val (.long q3), .second, .val (.int (p0 &&& (7 : Int32))), .val (.int (Int32.ofNat n)), .val (.ref b397), .val (.ref b449), .unset] [(.int (1 : Int32)), (.int (Int32.ofNat n))])) _
              refine XS.icmpYes X733.here hx rfl (pc0 := 429) (pc' := 574) rfl (hb hby at_429) rfl (tlt (hc740 : (Int32.ofNat n) < (1 : Int32))).1 (by decide) (by decide) ?_
              show Steps p.tables e below (T733.setTop (mkF m 574 #[.val (.int p0), .val (.long q1), .second, .val (.long q2), .second, .val (.long q3), .second, .val (.int (p0 &&& (7 : Int32))), .val (.int (Int32.ofNat n)), .val (.ref b397), .val (.ref b449), .unset] [])) _
              refine XS.iconst X733.here hx rfl (hb hby at_574) ?_
              show Steps p.tables e below (T733.setTop (mkF m 575 #[.val (.int p0), .val (.long q1), .second, .val (.long q2), .second, .val (.long q3), .second, .val (.int (p0 &&& (7 : Int32))), .val (.int (Int32.ofNat n)), .val (.ref b397), .val (.ref b449), .unset] [(.int (0 : Int32))])) _
              refine XS.istore X733.here hx rfl (hb hby at_575) rfl (l' := #[.val (.int p0), .val (.long q1), .second, .val (.long q2), .second, .val (.long q3), .second, .val (.int (p0 &&& (7 : Int32))), .val (.int (Int32.ofNat n)), .val (.ref b397), .val (.ref b449), .val (.int (0 : Int32))]) rfl ?_
              exact k
            have pre742 : ∀ t, Steps p.tables e below (T733.setTop (mkF m 577 #[.val (.int p0), .val (.long q1), .second, .val (.long q2), .second, .val (.long q3), .second, .val (.int (p0 &&& (7 : Int32))), .val (.int (Int32.ofNat n)), .val (.ref b397), .val (.ref b449), .val (.int (bi (own_val cs)))] [])) t → Steps p.tables e below (T733.setTop (mkF m 426 #[.val (.int p0), .val (.long q1), .second, .val (.long q2), .second, .val (.long q3), .second, .val (.int (p0 &&& (7 : Int32))), .val (.int (Int32.ofNat n)), .val (.ref b397), .val (.ref b449), .unset] [])) t := fun t k => pre741 t (by rw [(show (0 : Int32) = bi (own_val cs) from (bi_f (own_v0 gcs hc740 hn)).symm)]; exact k)
            exact ⟨_, _, X733, e733, N733, fun t kt => pre742 t kt⟩
          · obtain ⟨_, _, ⟨T743, L743, k743, n743⟩, -, X743, ⟨Lc743, hQ743, l743, y743, z743⟩, st743⟩ := Jvm.LawKit.callS X733 hx (y := (⟨"com/example/delay_buckets/delaybuckets/NamesIsValidPinLaw", "okAt", "([CII)Z"⟩ : MethodName)) hown (mvT hZ (hw _ (List.mem_of_getElem? (i := 71) rfl))) (mvT hZ (hw _ (List.mem_of_getElem? (i := 72) rfl))) (mvT hZ (hw _ (List.mem_of_getElem? (i := 73) rfl))) (mvT hZ (hw _ (List.mem_of_getElem? (i := 74) rfl))) (by decide) (backOf (W := 0) (rmOka l Z a0 hw [] b397 (0 : Int32) n 0 k397 C h733 h0.size (by omega) P733_5 ((by first | decide | omega | assumption) : n ≤ 12) (rfl : (0 : Int32) = (Int32.ofNat 0)) ((by decide) : 0 < 12) ((by first | decide | omega | assumption) : C.length = 12)) hZ (hw _ (List.mem_of_getElem? (i := 74) rfl)) (hw _ (List.mem_of_getElem? (i := 73) rfl)) (by decide) (by decide)) (g := (mkF m 437 #[.val (.int p0), .val (.long q1), .second, .val (.long q2), .second, .val (.long q3), .second, .val (.int (p0 &&& (7 : Int32))), .val (.int (Int32.ofNat n)), .val (.ref b397), .val (.ref b449), .unset] [(.int (0 : Int32)), (.int (Int32.ofNat n)), (.ref b397)])) rfl (by rw [hml]; rfl) (argsL := [(.ref b397), (.int (Int32.ofNat n)), (.int (0 : Int32))]) (rest := []) (lenOf pd_18 rfl) rfl (by show 2 * 0 + _ ≤ _; exact Nat.le_of_eq rfl) (hb hby at_437) (fun _ _ => ⟨rfl, e733, (by decide : 2 + 0 ≤ _), (by decide : 24 + 0 ≤ _)⟩)
            dsimp only [Pt.U, Pt.locs, Pt.cells, Pt.slots] at X743 l743 y743 z743 st743 hQ743
            subst l743 y743 z743
            obtain ⟨rfl, N743q, e743⟩ := hQ743
            have N743 := Fr.app N733 N743q
            have pre744 : ∀ t, Steps p.tables e below (T743.setTop (mkF m 440 #[.val (.int p0), .val (.long q1), .second, .val (.long q2), .second, .val (.long q3), .second, .val (.int (p0 &&& (7 : Int32))), .val (.int (Int32.ofNat n)), .val (.ref b397), .val (.ref b449), .unset] [(.int (bi (0 < n → own_ok (C.getD 0 0))))])) t → Steps p.tables e below (T733.setTop (mkF m 426 #[.val (.int p0), .val (.long q1), .second, .val (.long q2), .second, .val (.long q3), .second, .val (.int (p0 &&& (7 : Int32))), .val (.int (Int32.ofNat n)), .val (.ref b397), .val (.ref b449), .unset] [])) t := fun t k => by
              refine pre739 _ ?_
              show Steps p.tables e below (T733.setTop (mkF m 429 #[.val (.int p0), .val (.long q1), .second, .val (.long q2), .second, .val (.long q3), .second, .val (.int (p0 &&& (7 : Int32))), .val (.int (Int32.ofNat n)), .val (.ref b397), .val (.ref b449), .unset] [(.int (1 : Int32)), (.int (Int32.ofNat n))])) _
              refine XS.icmpNo X733.here hx rfl (hb hby at_429) rfl (flt (hc740 : ¬ ((Int32.ofNat n) < (1 : Int32)))).1 ?_
              show Steps p.tables e below (T733.setTop (mkF m 432 #[.val (.int p0), .val (.long q1), .second, .val (.long q2), .second, .val (.long q3), .second, .val (.int (p0 &&& (7 : Int32))), .val (.int (Int32.ofNat n)), .val (.ref b397), .val (.ref b449), .unset] [])) _
              refine XS.aload X733.here hx rfl (hb hby at_432) rfl rfl ?_
              show Steps p.tables e below (T733.setTop (mkF m 434 #[.val (.int p0), .val (.long q1), .second, .val (.long q2), .second, .val (.long q3), .second, .val (.int (p0 &&& (7 : Int32))), .val (.int (Int32.ofNat n)), .val (.ref b397), .val (.ref b449), .unset] [(.ref b397)])) _
              refine XS.iload X733.here hx rfl (hb hby at_434) rfl ?_
              show Steps p.tables e below (T733.setTop (mkF m 436 #[.val (.int p0), .val (.long q1), .second, .val (.long q2), .second, .val (.long q3), .second, .val (.int (p0 &&& (7 : Int32))), .val (.int (Int32.ofNat n)), .val (.ref b397), .val (.ref b449), .unset] [(.int (Int32.ofNat n)), (.ref b397)])) _
              refine XS.iconst X733.here hx rfl (hb hby at_436) ?_
              show Steps p.tables e below (T733.setTop (mkF m 437 #[.val (.int p0), .val (.long q1), .second, .val (.long q2), .second, .val (.long q3), .second, .val (.int (p0 &&& (7 : Int32))), .val (.int (Int32.ofNat n)), .val (.ref b397), .val (.ref b449), .unset] [(.int (0 : Int32)), (.int (Int32.ofNat n)), (.ref b397)])) _
              refine st743 _ ?_
              exact k
            by_cases hc745 : 0 < n → own_ok (C.getD 0 0)
            · obtain ⟨_, _, ⟨T746, L746, k746, n746⟩, -, X746, ⟨Lc746, hQ746, l746, y746, z746⟩, st746⟩ := Jvm.LawKit.callS X743 hx (y := (⟨"com/example/delay_buckets/delaybuckets/NamesIsValidPinLaw", "okAt", "([CII)Z"⟩ : MethodName)) hown (mvT hZ (hw _ (List.mem_of_getElem? (i := 71) rfl))) (mvT hZ (hw _ (List.mem_of_getElem? (i := 72) rfl))) (mvT hZ (hw _ (List.mem_of_getElem? (i := 73) rfl))) (mvT hZ (hw _ (List.mem_of_getElem? (i := 74) rfl))) (by decide) (backOf (W := 0) (rmOka l Z a0 hw [] b397 (1 : Int32) n 1 k397 C h733 h0.size (by omega) P733_5 ((by first | decide | omega | assumption) : n ≤ 12) (rfl : (1 : Int32) = (Int32.ofNat 1)) ((by decide) : 1 < 12) ((by first | decide | omega | assumption) : C.length = 12)) hZ (hw _ (List.mem_of_getElem? (i := 74) rfl)) (hw _ (List.mem_of_getElem? (i := 73) rfl)) (by decide) (by decide)) (g := (mkF m 448 #[.val (.int p0), .val (.long q1), .second, .val (.long q2), .second, .val (.long q3), .second, .val (.int (p0 &&& (7 : Int32))), .val (.int (Int32.ofNat n)), .val (.ref b397), .val (.ref b449), .unset] [(.int (1 : Int32)), (.int (Int32.ofNat n)), (.ref b397)])) rfl (by rw [hml]; rfl) (argsL := [(.ref b397), (.int (Int32.ofNat n)), (.int (1 : Int32))]) (rest := []) (lenOf pd_18 rfl) rfl (by show 2 * 0 + _ ≤ _; exact Nat.le_of_eq rfl) (hb hby at_448) (fun _ _ => ⟨rfl, e743, (by decide : 2 + 0 ≤ _), (by decide : 24 + 0 ≤ _)⟩)
              dsimp only [Pt.U, Pt.locs, Pt.cells, Pt.slots] at X746 l746 y746 z746 st746 hQ746
              subst l746 y746 z746
              obtain ⟨rfl, N746q, e746⟩ := hQ746
              have N746 := Fr.app N743 N746q
              have pre747 : ∀ t, Steps p.tables e below (T746.setTop (mkF m 451 #[.val (.int p0), .val (.long q1), .second, .val (.long q2), .second, .val (.long q3), .second, .val (.int (p0 &&& (7 : Int32))), .val (.int (Int32.ofNat n)), .val (.ref b397), .val (.ref b449), .unset] [(.int (bi (1 < n → own_ok (C.getD 1 0))))])) t → Steps p.tables e below (T733.setTop (mkF m 426 #[.val (.int p0), .val (.long q1), .second, .val (.long q2), .second, .val (.long q3), .second, .val (.int (p0 &&& (7 : Int32))), .val (.int (Int32.ofNat n)), .val (.ref b397), .val (.ref b449), .unset] [])) t := fun t k => by
                refine pre744 _ ?_
                show Steps p.tables e below (T743.setTop (mkF m 440 #[.val (.int p0), .val (.long q1), .second, .val (.long q2), .second, .val (.long q3), .second, .val (.int (p0 &&& (7 : Int32))), .val (.int (Int32.ofNat n)), .val (.ref b397), .val (.ref b449), .unset] [(.int (bi (0 < n → own_ok (C.getD 0 0))))])) _
                refine XS.ifNo X743.here hx rfl (hb hby at_440) rfl ((if0 _ _).trans (feq ((bi_n hc745) : ¬ ((bi (0 < n → own_ok (C.getD 0 0))) = (0 : Int32)))).1) ?_
                show Steps p.tables e below (T743.setTop (mkF m 443 #[.val (.int p0), .val (.long q1), .second, .val (.long q2), .second, .val (.long q3), .second, .val (.int (p0 &&& (7 : Int32))), .val (.int (Int32.ofNat n)), .val (.ref b397), .val (.ref b449), .unset] [])) _
                refine XS.aload X743.here hx rfl (hb hby at_443) rfl rfl ?_
                show Steps p.tables e below (T743.setTop (mkF m 445 #[.val (.int p0), .val (.long q1), .second, .val (.long q2), .second, .val (.long q3), .second, .val (.int (p0 &&& (7 : Int32))), .val (.int (Int32.ofNat n)), .val (.ref b397), .val (.ref b449), .unset] [(.ref b397)])) _
                refine XS.iload X743.here hx rfl (hb hby at_445) rfl ?_
                show Steps p.tables e below (T743.setTop (mkF m 447 #[.val (.int p0), .val (.long q1), .second, .val (.long q2), .second, .val (.long q3), .second, .val (.int (p0 &&& (7 : Int32))), .val (.int (Int32.ofNat n)), .val (.ref b397), .val (.ref b449), .unset] [(.int (Int32.ofNat n)), (.ref b397)])) _
                refine XS.iconst X743.here hx rfl (hb hby at_447) ?_
                show Steps p.tables e below (T743.setTop (mkF m 448 #[.val (.int p0), .val (.long q1), .second, .val (.long q2), .second, .val (.long q3), .second, .val (.int (p0 &&& (7 : Int32))), .val (.int (Int32.ofNat n)), .val (.ref b397), .val (.ref b449), .unset] [(.int (1 : Int32)), (.int (Int32.ofNat n)), (.ref b397)])) _
                refine st746 _ ?_
                exact k
              by_cases hc748 : 1 < n → own_ok (C.getD 1 0)
              · obtain ⟨_, _, ⟨T749, L749, k749, n749⟩, -, X749, ⟨Lc749, hQ749, l749, y749, z749⟩, st749⟩ := Jvm.LawKit.callS X746 hx (y := (⟨"com/example/delay_buckets/delaybuckets/NamesIsValidPinLaw", "okAt", "([CII)Z"⟩ : MethodName)) hown (mvT hZ (hw _ (List.mem_of_getElem? (i := 71) rfl))) (mvT hZ (hw _ (List.mem_of_getElem? (i := 72) rfl))) (mvT hZ (hw _ (List.mem_of_getElem? (i := 73) rfl))) (mvT hZ (hw _ (List.mem_of_getElem? (i := 74) rfl))) (by decide) (backOf (W := 0) (rmOka l Z a0 hw [] b397 (2 : Int32) n 2 k397 C h733 h0.size (by omega) P733_5 ((by first | decide | omega | assumption) : n ≤ 12) (rfl : (2 : Int32) = (Int32.ofNat 2)) ((by decide) : 2 < 12) ((by first | decide | omega | assumption) : C.length = 12)) hZ (hw _ (List.mem_of_getElem? (i := 74) rfl)) (hw _ (List.mem_of_getElem? (i := 73) rfl)) (by decide) (by decide)) (g := (mkF m 459 #[.val (.int p0), .val (.long q1), .second, .val (.long q2), .second, .val (.long q3), .second, .val (.int (p0 &&& (7 : Int32))), .val (.int (Int32.ofNat n)), .val (.ref b397), .val (.ref b449), .unset] [(.int (2 : Int32)), (.int (Int32.ofNat n)), (.ref b397)])) rfl (by rw [hml]; rfl) (argsL := [(.ref b397), (.int (Int32.ofNat n)), (.int (2 : Int32))]) (rest := []) (lenOf pd_18 rfl) rfl (by show 2 * 0 + _ ≤ _; exact Nat.le_of_eq rfl) (hb hby at_459) (fun _ _ => ⟨rfl, e746, (by decide : 2 + 0 ≤ _), (by decide : 24 + 0 ≤ _)⟩)
                dsimp only [Pt.U, Pt.locs, Pt.cells, Pt.slots] at X749 l749 y749 z749 st749 hQ749
                subst l749 y749 z749
                obtain ⟨rfl, N749q, e749⟩ := hQ749
                have N749 := Fr.app N746 N749q
                have pre750 : ∀ t, Steps p.tables e below (T749.setTop (mkF m 462 #[.val (.int p0), .val (.long q1), .second, .val (.long q2), .second, .val (.long q3), .second, .val (.int (p0 &&& (7 : Int32))), .val (.int (Int32.ofNat n)), .val (.ref b397), .val (.ref b449), .unset] [(.int (bi (2 < n → own_ok (C.getD 2 0))))])) t → Steps p.tables e below (T733.setTop (mkF m 426 #[.val (.int p0), .val (.long q1), .second, .val (.long q2), .second, .val (.long q3), .second, .val (.int (p0 &&& (7 : Int32))), .val (.int (Int32.ofNat n)), .val (.ref b397), .val (.ref b449), .unset] [])) t := fun t k => by
                  refine pre747 _ ?_
                  show Steps p.tables e below (T746.setTop (mkF m 451 #[.val (.int p0), .val (.long q1), .second, .val (.long q2), .second, .val (.long q3), .second, .val (.int (p0 &&& (7 : Int32))), .val (.int (Int32.ofNat n)), .val (.ref b397), .val (.ref b449), .unset] [(.int (bi (1 < n → own_ok (C.getD 1 0))))])) _
                  refine XS.ifNo X746.here hx rfl (hb hby at_451) rfl ((if0 _ _).trans (feq ((bi_n hc748) : ¬ ((bi (1 < n → own_ok (C.getD 1 0))) = (0 : Int32)))).1) ?_
                  show Steps p.tables e below (T746.setTop (mkF m 454 #[.val (.int p0), .val (.long q1), .second, .val (.long q2), .second, .val (.long q3), .second, .val (.int (p0 &&& (7 : Int32))), .val (.int (Int32.ofNat n)), .val (.ref b397), .val (.ref b449), .unset] [])) _
                  refine XS.aload X746.here hx rfl (hb hby at_454) rfl rfl ?_
                  show Steps p.tables e below (T746.setTop (mkF m 456 #[.val (.int p0), .val (.long q1), .second, .val (.long q2), .second, .val (.long q3), .second, .val (.int (p0 &&& (7 : Int32))), .val (.int (Int32.ofNat n)), .val (.ref b397), .val (.ref b449), .unset] [(.ref b397)])) _
                  refine XS.iload X746.here hx rfl (hb hby at_456) rfl ?_
                  show Steps p.tables e below (T746.setTop (mkF m 458 #[.val (.int p0), .val (.long q1), .second, .val (.long q2), .second, .val (.long q3), .second, .val (.int (p0 &&& (7 : Int32))), .val (.int (Int32.ofNat n)), .val (.ref b397), .val (.ref b449), .unset] [(.int (Int32.ofNat n)), (.ref b397)])) _
                  refine XS.iconst X746.here hx rfl (hb hby at_458) ?_
                  show Steps p.tables e below (T746.setTop (mkF m 459 #[.val (.int p0), .val (.long q1), .second, .val (.long q2), .second, .val (.long q3), .second, .val (.int (p0 &&& (7 : Int32))), .val (.int (Int32.ofNat n)), .val (.ref b397), .val (.ref b449), .unset] [(.int (2 : Int32)), (.int (Int32.ofNat n)), (.ref b397)])) _
                  refine st749 _ ?_
                  exact k
                by_cases hc751 : 2 < n → own_ok (C.getD 2 0)
                · obtain ⟨_, _, ⟨T752, L752, k752, n752⟩, -, X752, ⟨Lc752, hQ752, l752, y752, z752⟩, st752⟩ := Jvm.LawKit.callS X749 hx (y := (⟨"com/example/delay_buckets/delaybuckets/NamesIsValidPinLaw", "okAt", "([CII)Z"⟩ : MethodName)) hown (mvT hZ (hw _ (List.mem_of_getElem? (i := 71) rfl))) (mvT hZ (hw _ (List.mem_of_getElem? (i := 72) rfl))) (mvT hZ (hw _ (List.mem_of_getElem? (i := 73) rfl))) (mvT hZ (hw _ (List.mem_of_getElem? (i := 74) rfl))) (by decide) (backOf (W := 0) (rmOka l Z a0 hw [] b397 (3 : Int32) n 3 k397 C h733 h0.size (by omega) P733_5 ((by first | decide | omega | assumption) : n ≤ 12) (rfl : (3 : Int32) = (Int32.ofNat 3)) ((by decide) : 3 < 12) ((by first | decide | omega | assumption) : C.length = 12)) hZ (hw _ (List.mem_of_getElem? (i := 74) rfl)) (hw _ (List.mem_of_getElem? (i := 73) rfl)) (by decide) (by decide)) (g := (mkF m 470 #[.val (.int p0), .val (.long q1), .second, .val (.long q2), .second, .val (.long q3), .second, .val (.int (p0 &&& (7 : Int32))), .val (.int (Int32.ofNat n)), .val (.ref b397), .val (.ref b449), .unset] [(.int (3 : Int32)), (.int (Int32.ofNat n)), (.ref b397)])) rfl (by rw [hml]; rfl) (argsL := [(.ref b397), (.int (Int32.ofNat n)), (.int (3 : Int32))]) (rest := []) (lenOf pd_18 rfl) rfl (by show 2 * 0 + _ ≤ _; exact Nat.le_of_eq rfl) (hb hby at_470) (fun _ _ => ⟨rfl, e749, (by decide : 2 + 0 ≤ _), (by decide : 24 + 0 ≤ _)⟩)
                  dsimp only [Pt.U, Pt.locs, Pt.cells, Pt.slots] at X752 l752 y752 z752 st752 hQ752
                  subst l752 y752 z752
                  obtain ⟨rfl, N752q, e752⟩ := hQ752
                  have N752 := Fr.app N749 N752q
                  have pre753 : ∀ t, Steps p.tables e below (T752.setTop (mkF m 473 #[.val (.int p0), .val (.long q1), .second, .val (.long q2), .second, .val (.long q3), .second, .val (.int (p0 &&& (7 : Int32))), .val (.int (Int32.ofNat n)), .val (.ref b397), .val (.ref b449), .unset] [(.int (bi (3 < n → own_ok (C.getD 3 0))))])) t → Steps p.tables e below (T733.setTop (mkF m 426 #[.val (.int p0), .val (.long q1), .second, .val (.long q2), .second, .val (.long q3), .second, .val (.int (p0 &&& (7 : Int32))), .val (.int (Int32.ofNat n)), .val (.ref b397), .val (.ref b449), .unset] [])) t := fun t k => by
                    refine pre750 _ ?_
                    show Steps p.tables e below (T749.setTop (mkF m 462 #[.val (.int p0), .val (.long q1), .second, .val (.long q2), .second, .val (.long q3), .second, .val (.int (p0 &&& (7 : Int32))), .val (.int (Int32.ofNat n)), .val (.ref b397), .val (.ref b449), .unset] [(.int (bi (2 < n → own_ok (C.getD 2 0))))])) _
                    refine XS.ifNo X749.here hx rfl (hb hby at_462) rfl ((if0 _ _).trans (feq ((bi_n hc751) : ¬ ((bi (2 < n → own_ok (C.getD 2 0))) = (0 : Int32)))).1) ?_
                    show Steps p.tables e below (T749.setTop (mkF m 465 #[.val (.int p0), .val (.long q1), .second, .val (.long q2), .second, .val (.long q3), .second, .val (.int (p0 &&& (7 : Int32))), .val (.int (Int32.ofNat n)), .val (.ref b397), .val (.ref b449), .unset] [])) _
                    refine XS.aload X749.here hx rfl (hb hby at_465) rfl rfl ?_
                    show Steps p.tables e below (T749.setTop (mkF m 467 #[.val (.int p0), .val (.long q1), .second, .val (.long q2), .second, .val (.long q3), .second, .val (.int (p0 &&& (7 : Int32))), .val (.int (Int32.ofNat n)), .val (.ref b397), .val (.ref b449), .unset] [(.ref b397)])) _
                    refine XS.iload X749.here hx rfl (hb hby at_467) rfl ?_
                    show Steps p.tables e below (T749.setTop (mkF m 469 #[.val (.int p0), .val (.long q1), .second, .val (.long q2), .second, .val (.long q3), .second, .val (.int (p0 &&& (7 : Int32))), .val (.int (Int32.ofNat n)), .val (.ref b397), .val (.ref b449), .unset] [(.int (Int32.ofNat n)), (.ref b397)])) _
                    refine XS.iconst X749.here hx rfl (hb hby at_469) ?_
                    show Steps p.tables e below (T749.setTop (mkF m 470 #[.val (.int p0), .val (.long q1), .second, .val (.long q2), .second, .val (.long q3), .second, .val (.int (p0 &&& (7 : Int32))), .val (.int (Int32.ofNat n)), .val (.ref b397), .val (.ref b449), .unset] [(.int (3 : Int32)), (.int (Int32.ofNat n)), (.ref b397)])) _
                    refine st752 _ ?_
                    exact k
                  by_cases hc754 : 3 < n → own_ok (C.getD 3 0)
                  · obtain ⟨_, _, ⟨T755, L755, k755, n755⟩, -, X755, ⟨Lc755, hQ755, l755, y755, z755⟩, st755⟩ := Jvm.LawKit.callS X752 hx (y := (⟨"com/example/delay_buckets/delaybuckets/NamesIsValidPinLaw", "okAt", "([CII)Z"⟩ : MethodName)) hown (mvT hZ (hw _ (List.mem_of_getElem? (i := 71) rfl))) (mvT hZ (hw _ (List.mem_of_getElem? (i := 72) rfl))) (mvT hZ (hw _ (List.mem_of_getElem? (i := 73) rfl))) (mvT hZ (hw _ (List.mem_of_getElem? (i := 74) rfl))) (by decide) (backOf (W := 0) (rmOka l Z a0 hw [] b397 (4 : Int32) n 4 k397 C h733 h0.size (by omega) P733_5 ((by first | decide | omega | assumption) : n ≤ 12) (rfl : (4 : Int32) = (Int32.ofNat 4)) ((by decide) : 4 < 12) ((by first | decide | omega | assumption) : C.length = 12)) hZ (hw _ (List.mem_of_getElem? (i := 74) rfl)) (hw _ (List.mem_of_getElem? (i := 73) rfl)) (by decide) (by decide)) (g := (mkF m 481 #[.val (.int p0), .val (.long q1), .second, .val (.long q2), .second, .val (.long q3), .second, .val (.int (p0 &&& (7 : Int32))), .val (.int (Int32.ofNat n)), .val (.ref b397), .val (.ref b449), .unset] [(.int (4 : Int32)), (.int (Int32.ofNat n)), (.ref b397)])) rfl (by rw [hml]; rfl) (argsL := [(.ref b397), (.int (Int32.ofNat n)), (.int (4 : Int32))]) (rest := []) (lenOf pd_18 rfl) rfl (by show 2 * 0 + _ ≤ _; exact Nat.le_of_eq rfl) (hb hby at_481) (fun _ _ => ⟨rfl, e752, (by decide : 2 + 0 ≤ _), (by decide : 24 + 0 ≤ _)⟩)
                    dsimp only [Pt.U, Pt.locs, Pt.cells, Pt.slots] at X755 l755 y755 z755 st755 hQ755
                    subst l755 y755 z755
                    obtain ⟨rfl, N755q, e755⟩ := hQ755
                    have N755 := Fr.app N752 N755q
                    have pre756 : ∀ t, Steps p.tables e below (T755.setTop (mkF m 484 #[.val (.int p0), .val (.long q1), .second, .val (.long q2), .second, .val (.long q3), .second, .val (.int (p0 &&& (7 : Int32))), .val (.int (Int32.ofNat n)), .val (.ref b397), .val (.ref b449), .unset] [(.int (bi (4 < n → own_ok (C.getD 4 0))))])) t → Steps p.tables e below (T733.setTop (mkF m 426 #[.val (.int p0), .val (.long q1), .second, .val (.long q2), .second, .val (.long q3), .second, .val (.int (p0 &&& (7 : Int32))), .val (.int (Int32.ofNat n)), .val (.ref b397), .val (.ref b449), .unset] [])) t := fun t k => by
                      refine pre753 _ ?_
                      show Steps p.tables e below (T752.setTop (mkF m 473 #[.val (.int p0), .val (.long q1), .second, .val (.long q2), .second, .val (.long q3), .second, .val (.int (p0 &&& (7 : Int32))), .val (.int (Int32.ofNat n)), .val (.ref b397), .val (.ref b449), .unset] [(.int (bi (3 < n → own_ok (C.getD 3 0))))])) _
                      refine XS.ifNo X752.here hx rfl (hb hby at_473) rfl ((if0 _ _).trans (feq ((bi_n hc754) : ¬ ((bi (3 < n → own_ok (C.getD 3 0))) = (0 : Int32)))).1) ?_
                      show Steps p.tables e below (T752.setTop (mkF m 476 #[.val (.int p0), .val (.long q1), .second, .val (.long q2), .second, .val (.long q3), .second, .val (.int (p0 &&& (7 : Int32))), .val (.int (Int32.ofNat n)), .val (.ref b397), .val (.ref b449), .unset] [])) _
                      refine XS.aload X752.here hx rfl (hb hby at_476) rfl rfl ?_
                      show Steps p.tables e below (T752.setTop (mkF m 478 #[.val (.int p0), .val (.long q1), .second, .val (.long q2), .second, .val (.long q3), .second, .val (.int (p0 &&& (7 : Int32))), .val (.int (Int32.ofNat n)), .val (.ref b397), .val (.ref b449), .unset] [(.ref b397)])) _
                      refine XS.iload X752.here hx rfl (hb hby at_478) rfl ?_
                      show Steps p.tables e below (T752.setTop (mkF m 480 #[.val (.int p0), .val (.long q1), .second, .val (.long q2), .second, .val (.long q3), .second, .val (.int (p0 &&& (7 : Int32))), .val (.int (Int32.ofNat n)), .val (.ref b397), .val (.ref b449), .unset] [(.int (Int32.ofNat n)), (.ref b397)])) _
                      refine XS.iconst X752.here hx rfl (hb hby at_480) ?_
                      show Steps p.tables e below (T752.setTop (mkF m 481 #[.val (.int p0), .val (.long q1), .second, .val (.long q2), .second, .val (.long q3), .second, .val (.int (p0 &&& (7 : Int32))), .val (.int (Int32.ofNat n)), .val (.ref b397), .val (.ref b449), .unset] [(.int (4 : Int32)), (.int (Int32.ofNat n)), (.ref b397)])) _
                      refine st755 _ ?_
                      exact k
                    by_cases hc757 : 4 < n → own_ok (C.getD 4 0)
                    · obtain ⟨_, _, ⟨T758, L758, k758, n758⟩, -, X758, ⟨Lc758, hQ758, l758, y758, z758⟩, st758⟩ := Jvm.LawKit.callS X755 hx (y := (⟨"com/example/delay_buckets/delaybuckets/NamesIsValidPinLaw", "okAt", "([CII)Z"⟩ : MethodName)) hown (mvT hZ (hw _ (List.mem_of_getElem? (i := 71) rfl))) (mvT hZ (hw _ (List.mem_of_getElem? (i := 72) rfl))) (mvT hZ (hw _ (List.mem_of_getElem? (i := 73) rfl))) (mvT hZ (hw _ (List.mem_of_getElem? (i := 74) rfl))) (by decide) (backOf (W := 0) (rmOka l Z a0 hw [] b397 (5 : Int32) n 5 k397 C h733 h0.size (by omega) P733_5 ((by first | decide | omega | assumption) : n ≤ 12) (rfl : (5 : Int32) = (Int32.ofNat 5)) ((by decide) : 5 < 12) ((by first | decide | omega | assumption) : C.length = 12)) hZ (hw _ (List.mem_of_getElem? (i := 74) rfl)) (hw _ (List.mem_of_getElem? (i := 73) rfl)) (by decide) (by decide)) (g := (mkF m 492 #[.val (.int p0), .val (.long q1), .second, .val (.long q2), .second, .val (.long q3), .second, .val (.int (p0 &&& (7 : Int32))), .val (.int (Int32.ofNat n)), .val (.ref b397), .val (.ref b449), .unset] [(.int (5 : Int32)), (.int (Int32.ofNat n)), (.ref b397)])) rfl (by rw [hml]; rfl) (argsL := [(.ref b397), (.int (Int32.ofNat n)), (.int (5 : Int32))]) (rest := []) (lenOf pd_18 rfl) rfl (by show 2 * 0 + _ ≤ _; exact Nat.le_of_eq rfl) (hb hby at_492) (fun _ _ => ⟨rfl, e755, (by decide : 2 + 0 ≤ _), (by decide : 24 + 0 ≤ _)⟩)
                      dsimp only [Pt.U, Pt.locs, Pt.cells, Pt.slots] at X758 l758 y758 z758 st758 hQ758
                      subst l758 y758 z758
                      obtain ⟨rfl, N758q, e758⟩ := hQ758
                      have N758 := Fr.app N755 N758q
                      have pre759 : ∀ t, Steps p.tables e below (T758.setTop (mkF m 495 #[.val (.int p0), .val (.long q1), .second, .val (.long q2), .second, .val (.long q3), .second, .val (.int (p0 &&& (7 : Int32))), .val (.int (Int32.ofNat n)), .val (.ref b397), .val (.ref b449), .unset] [(.int (bi (5 < n → own_ok (C.getD 5 0))))])) t → Steps p.tables e below (T733.setTop (mkF m 426 #[.val (.int p0), .val (.long q1), .second, .val (.long q2), .second, .val (.long q3), .second, .val (.int (p0 &&& (7 : Int32))), .val (.int (Int32.ofNat n)), .val (.ref b397), .val (.ref b449), .unset] [])) t := fun t k => by
                        refine pre756 _ ?_
                        show Steps p.tables e below (T755.setTop (mkF m 484 #[.val (.int p0), .val (.long q1), .second, .val (.long q2), .second, .val (.long q3), .second, .val (.int (p0 &&& (7 : Int32))), .val (.int (Int32.ofNat n)), .val (.ref b397), .val (.ref b449), .unset] [(.int (bi (4 < n → own_ok (C.getD 4 0))))])) _
                        refine XS.ifNo X755.here hx rfl (hb hby at_484) rfl ((if0 _ _).trans (feq ((bi_n hc757) : ¬ ((bi (4 < n → own_ok (C.getD 4 0))) = (0 : Int32)))).1) ?_
                        show Steps p.tables e below (T755.setTop (mkF m 487 #[.val (.int p0), .val (.long q1), .second, .val (.long q2), .second, .val (.long q3), .second, .val (.int (p0 &&& (7 : Int32))), .val (.int (Int32.ofNat n)), .val (.ref b397), .val (.ref b449), .unset] [])) _
                        refine XS.aload X755.here hx rfl (hb hby at_487) rfl rfl ?_
                        show Steps p.tables e below (T755.setTop (mkF m 489 #[.val (.int p0), .val (.long q1), .second, .val (.long q2), .second, .val (.long q3), .second, .val (.int (p0 &&& (7 : Int32))), .val (.int (Int32.ofNat n)), .val (.ref b397), .val (.ref b449), .unset] [(.ref b397)])) _
                        refine XS.iload X755.here hx rfl (hb hby at_489) rfl ?_
                        show Steps p.tables e below (T755.setTop (mkF m 491 #[.val (.int p0), .val (.long q1), .second, .val (.long q2), .second, .val (.long q3), .second, .val (.int (p0 &&& (7 : Int32))), .val (.int (Int32.ofNat n)), .val (.ref b397), .val (.ref b449), .unset] [(.int (Int32.ofNat n)), (.ref b397)])) _
                        refine XS.iconst X755.here hx rfl (hb hby at_491) ?_
                        show Steps p.tables e below (T755.setTop (mkF m 492 #[.val (.int p0), .val (.long q1), .second, .val (.long q2), .second, .val (.long q3), .second, .val (.int (p0 &&& (7 : Int32))), .val (.int (Int32.ofNat n)), .val (.ref b397), .val (.ref b449), .unset] [(.int (5 : Int32)), (.int (Int32.ofNat n)), (.ref b397)])) _
                        refine st758 _ ?_
                        exact k
                      by_cases hc760 : 5 < n → own_ok (C.getD 5 0)
                      · obtain ⟨_, _, ⟨T761, L761, k761, n761⟩, -, X761, ⟨Lc761, hQ761, l761, y761, z761⟩, st761⟩ := Jvm.LawKit.callS X758 hx (y := (⟨"com/example/delay_buckets/delaybuckets/NamesIsValidPinLaw", "okAt", "([CII)Z"⟩ : MethodName)) hown (mvT hZ (hw _ (List.mem_of_getElem? (i := 71) rfl))) (mvT hZ (hw _ (List.mem_of_getElem? (i := 72) rfl))) (mvT hZ (hw _ (List.mem_of_getElem? (i := 73) rfl))) (mvT hZ (hw _ (List.mem_of_getElem? (i := 74) rfl))) (by decide) (backOf (W := 0) (rmOka l Z a0 hw [] b397 (6 : Int32) n 6 k397 C h733 h0.size (by omega) P733_5 ((by first | decide | omega | assumption) : n ≤ 12) (rfl : (6 : Int32) = (Int32.ofNat 6)) ((by decide) : 6 < 12) ((by first | decide | omega | assumption) : C.length = 12)) hZ (hw _ (List.mem_of_getElem? (i := 74) rfl)) (hw _ (List.mem_of_getElem? (i := 73) rfl)) (by decide) (by decide)) (g := (mkF m 504 #[.val (.int p0), .val (.long q1), .second, .val (.long q2), .second, .val (.long q3), .second, .val (.int (p0 &&& (7 : Int32))), .val (.int (Int32.ofNat n)), .val (.ref b397), .val (.ref b449), .unset] [(.int (6 : Int32)), (.int (Int32.ofNat n)), (.ref b397)])) rfl (by rw [hml]; rfl) (argsL := [(.ref b397), (.int (Int32.ofNat n)), (.int (6 : Int32))]) (rest := []) (lenOf pd_18 rfl) rfl (by show 2 * 0 + _ ≤ _; exact Nat.le_of_eq rfl) (hb hby at_504) (fun _ _ => ⟨rfl, e758, (by decide : 2 + 0 ≤ _), (by decide : 24 + 0 ≤ _)⟩)
                        dsimp only [Pt.U, Pt.locs, Pt.cells, Pt.slots] at X761 l761 y761 z761 st761 hQ761
                        subst l761 y761 z761
                        obtain ⟨rfl, N761q, e761⟩ := hQ761
                        have N761 := Fr.app N758 N761q
                        have pre762 : ∀ t, Steps p.tables e below (T761.setTop (mkF m 507 #[.val (.int p0), .val (.long q1), .second, .val (.long q2), .second, .val (.long q3), .second, .val (.int (p0 &&& (7 : Int32))), .val (.int (Int32.ofNat n)), .val (.ref b397), .val (.ref b449), .unset] [(.int (bi (6 < n → own_ok (C.getD 6 0))))])) t → Steps p.tables e below (T733.setTop (mkF m 426 #[.val (.int p0), .val (.long q1), .second, .val (.long q2), .second, .val (.long q3), .second, .val (.int (p0 &&& (7 : Int32))), .val (.int (Int32.ofNat n)), .val (.ref b397), .val (.ref b449), .unset] [])) t := fun t k => by
                          refine pre759 _ ?_
                          show Steps p.tables e below (T758.setTop (mkF m 495 #[.val (.int p0), .val (.long q1), .second, .val (.long q2), .second, .val (.long q3), .second, .val (.int (p0 &&& (7 : Int32))), .val (.int (Int32.ofNat n)), .val (.ref b397), .val (.ref b449), .unset] [(.int (bi (5 < n → own_ok (C.getD 5 0))))])) _
                          refine XS.ifNo X758.here hx rfl (hb hby at_495) rfl ((if0 _ _).trans (feq ((bi_n hc760) : ¬ ((bi (5 < n → own_ok (C.getD 5 0))) = (0 : Int32)))).1) ?_
                          show Steps p.tables e below (T758.setTop (mkF m 498 #[.val (.int p0), .val (.long q1), .second, .val (.long q2), .second, .val (.long q3), .second, .val (.int (p0 &&& (7 : Int32))), .val (.int (Int32.ofNat n)), .val (.ref b397), .val (.ref b449), .unset] [])) _
                          refine XS.aload X758.here hx rfl (hb hby at_498) rfl rfl ?_
                          show Steps p.tables e below (T758.setTop (mkF m 500 #[.val (.int p0), .val (.long q1), .second, .val (.long q2), .second, .val (.long q3), .second, .val (.int (p0 &&& (7 : Int32))), .val (.int (Int32.ofNat n)), .val (.ref b397), .val (.ref b449), .unset] [(.ref b397)])) _
                          refine XS.iload X758.here hx rfl (hb hby at_500) rfl ?_
                          show Steps p.tables e below (T758.setTop (mkF m 502 #[.val (.int p0), .val (.long q1), .second, .val (.long q2), .second, .val (.long q3), .second, .val (.int (p0 &&& (7 : Int32))), .val (.int (Int32.ofNat n)), .val (.ref b397), .val (.ref b449), .unset] [(.int (Int32.ofNat n)), (.ref b397)])) _
                          refine XS.bipush X758.here hx rfl (hb hby at_502) ?_
                          show Steps p.tables e below (T758.setTop (mkF m 504 #[.val (.int p0), .val (.long q1), .second, .val (.long q2), .second, .val (.long q3), .second, .val (.int (p0 &&& (7 : Int32))), .val (.int (Int32.ofNat n)), .val (.ref b397), .val (.ref b449), .unset] [(.int (6 : Int32)), (.int (Int32.ofNat n)), (.ref b397)])) _
                          refine st761 _ ?_
                          exact k
                        by_cases hc763 : 6 < n → own_ok (C.getD 6 0)
                        · obtain ⟨_, _, ⟨T764, L764, k764, n764⟩, -, X764, ⟨Lc764, hQ764, l764, y764, z764⟩, st764⟩ := Jvm.LawKit.callS X761 hx (y := (⟨"com/example/delay_buckets/delaybuckets/NamesIsValidPinLaw", "okAt", "([CII)Z"⟩ : MethodName)) hown (mvT hZ (hw _ (List.mem_of_getElem? (i := 71) rfl))) (mvT hZ (hw _ (List.mem_of_getElem? (i := 72) rfl))) (mvT hZ (hw _ (List.mem_of_getElem? (i := 73) rfl))) (mvT hZ (hw _ (List.mem_of_getElem? (i := 74) rfl))) (by decide) (backOf (W := 0) (rmOka l Z a0 hw [] b397 (7 : Int32) n 7 k397 C h733 h0.size (by omega) P733_5 ((by first | decide | omega | assumption) : n ≤ 12) (rfl : (7 : Int32) = (Int32.ofNat 7)) ((by decide) : 7 < 12) ((by first | decide | omega | assumption) : C.length = 12)) hZ (hw _ (List.mem_of_getElem? (i := 74) rfl)) (hw _ (List.mem_of_getElem? (i := 73) rfl)) (by decide) (by decide)) (g := (mkF m 516 #[.val (.int p0), .val (.long q1), .second, .val (.long q2), .second, .val (.long q3), .second, .val (.int (p0 &&& (7 : Int32))), .val (.int (Int32.ofNat n)), .val (.ref b397), .val (.ref b449), .unset] [(.int (7 : Int32)), (.int (Int32.ofNat n)), (.ref b397)])) rfl (by rw [hml]; rfl) (argsL := [(.ref b397), (.int (Int32.ofNat n)), (.int (7 : Int32))]) (rest := []) (lenOf pd_18 rfl) rfl (by show 2 * 0 + _ ≤ _; exact Nat.le_of_eq rfl) (hb hby at_516) (fun _ _ => ⟨rfl, e761, (by decide : 2 + 0 ≤ _), (by decide : 24 + 0 ≤ _)⟩)
                          dsimp only [Pt.U, Pt.locs, Pt.cells, Pt.slots] at X764 l764 y764 z764 st764 hQ764
                          subst l764 y764 z764
                          obtain ⟨rfl, N764q, e764⟩ := hQ764
                          have N764 := Fr.app N761 N764q
                          have pre765 : ∀ t, Steps p.tables e below (T764.setTop (mkF m 519 #[.val (.int p0), .val (.long q1), .second, .val (.long q2), .second, .val (.long q3), .second, .val (.int (p0 &&& (7 : Int32))), .val (.int (Int32.ofNat n)), .val (.ref b397), .val (.ref b449), .unset] [(.int (bi (7 < n → own_ok (C.getD 7 0))))])) t → Steps p.tables e below (T733.setTop (mkF m 426 #[.val (.int p0), .val (.long q1), .second, .val (.long q2), .second, .val (.long q3), .second, .val (.int (p0 &&& (7 : Int32))), .val (.int (Int32.ofNat n)), .val (.ref b397), .val (.ref b449), .unset] [])) t := fun t k => by
                            refine pre762 _ ?_
                            show Steps p.tables e below (T761.setTop (mkF m 507 #[.val (.int p0), .val (.long q1), .second, .val (.long q2), .second, .val (.long q3), .second, .val (.int (p0 &&& (7 : Int32))), .val (.int (Int32.ofNat n)), .val (.ref b397), .val (.ref b449), .unset] [(.int (bi (6 < n → own_ok (C.getD 6 0))))])) _
                            refine XS.ifNo X761.here hx rfl (hb hby at_507) rfl ((if0 _ _).trans (feq ((bi_n hc763) : ¬ ((bi (6 < n → own_ok (C.getD 6 0))) = (0 : Int32)))).1) ?_
                            show Steps p.tables e below (T761.setTop (mkF m 510 #[.val (.int p0), .val (.long q1), .second, .val (.long q2), .second, .val (.long q3), .second, .val (.int (p0 &&& (7 : Int32))), .val (.int (Int32.ofNat n)), .val (.ref b397), .val (.ref b449), .unset] [])) _
                            refine XS.aload X761.here hx rfl (hb hby at_510) rfl rfl ?_
                            show Steps p.tables e below (T761.setTop (mkF m 512 #[.val (.int p0), .val (.long q1), .second, .val (.long q2), .second, .val (.long q3), .second, .val (.int (p0 &&& (7 : Int32))), .val (.int (Int32.ofNat n)), .val (.ref b397), .val (.ref b449), .unset] [(.ref b397)])) _
                            refine XS.iload X761.here hx rfl (hb hby at_512) rfl ?_
                            show Steps p.tables e below (T761.setTop (mkF m 514 #[.val (.int p0), .val (.long q1), .second, .val (.long q2), .second, .val (.long q3), .second, .val (.int (p0 &&& (7 : Int32))), .val (.int (Int32.ofNat n)), .val (.ref b397), .val (.ref b449), .unset] [(.int (Int32.ofNat n)), (.ref b397)])) _
                            refine XS.bipush X761.here hx rfl (hb hby at_514) ?_
                            show Steps p.tables e below (T761.setTop (mkF m 516 #[.val (.int p0), .val (.long q1), .second, .val (.long q2), .second, .val (.long q3), .second, .val (.int (p0 &&& (7 : Int32))), .val (.int (Int32.ofNat n)), .val (.ref b397), .val (.ref b449), .unset] [(.int (7 : Int32)), (.int (Int32.ofNat n)), (.ref b397)])) _
                            refine st764 _ ?_
                            exact k
                          by_cases hc766 : 7 < n → own_ok (C.getD 7 0)
                          · obtain ⟨_, _, ⟨T767, L767, k767, n767⟩, -, X767, ⟨Lc767, hQ767, l767, y767, z767⟩, st767⟩ := Jvm.LawKit.callS X764 hx (y := (⟨"com/example/delay_buckets/delaybuckets/NamesIsValidPinLaw", "okAt", "([CII)Z"⟩ : MethodName)) hown (mvT hZ (hw _ (List.mem_of_getElem? (i := 71) rfl))) (mvT hZ (hw _ (List.mem_of_getElem? (i := 72) rfl))) (mvT hZ (hw _ (List.mem_of_getElem? (i := 73) rfl))) (mvT hZ (hw _ (List.mem_of_getElem? (i := 74) rfl))) (by decide) (backOf (W := 0) (rmOka l Z a0 hw [] b397 (8 : Int32) n 8 k397 C h733 h0.size (by omega) P733_5 ((by first | decide | omega | assumption) : n ≤ 12) (rfl : (8 : Int32) = (Int32.ofNat 8)) ((by decide) : 8 < 12) ((by first | decide | omega | assumption) : C.length = 12)) hZ (hw _ (List.mem_of_getElem? (i := 74) rfl)) (hw _ (List.mem_of_getElem? (i := 73) rfl)) (by decide) (by decide)) (g := (mkF m 528 #[.val (.int p0), .val (.long q1), .second, .val (.long q2), .second, .val (.long q3), .second, .val (.int (p0 &&& (7 : Int32))), .val (.int (Int32.ofNat n)), .val (.ref b397), .val (.ref b449), .unset] [(.int (8 : Int32)), (.int (Int32.ofNat n)), (.ref b397)])) rfl (by rw [hml]; rfl) (argsL := [(.ref b397), (.int (Int32.ofNat n)), (.int (8 : Int32))]) (rest := []) (lenOf pd_18 rfl) rfl (by show 2 * 0 + _ ≤ _; exact Nat.le_of_eq rfl) (hb hby at_528) (fun _ _ => ⟨rfl, e764, (by decide : 2 + 0 ≤ _), (by decide : 24 + 0 ≤ _)⟩)
                            dsimp only [Pt.U, Pt.locs, Pt.cells, Pt.slots] at X767 l767 y767 z767 st767 hQ767
                            subst l767 y767 z767
                            obtain ⟨rfl, N767q, e767⟩ := hQ767
                            have N767 := Fr.app N764 N767q
                            have pre768 : ∀ t, Steps p.tables e below (T767.setTop (mkF m 531 #[.val (.int p0), .val (.long q1), .second, .val (.long q2), .second, .val (.long q3), .second, .val (.int (p0 &&& (7 : Int32))), .val (.int (Int32.ofNat n)), .val (.ref b397), .val (.ref b449), .unset] [(.int (bi (8 < n → own_ok (C.getD 8 0))))])) t → Steps p.tables e below (T733.setTop (mkF m 426 #[.val (.int p0), .val (.long q1), .second, .val (.long q2), .second, .val (.long q3), .second, .val (.int (p0 &&& (7 : Int32))), .val (.int (Int32.ofNat n)), .val (.ref b397), .val (.ref b449), .unset] [])) t := fun t k => by
                              refine pre765 _ ?_
                              show Steps p.tables e below (T764.setTop (mkF m 519 #[.val (.int p0), .val (.long q1), .second, .val (.long q2), .second, .val (.long q3), .second, .val (.int (p0 &&& (7 : Int32))), .val (.int (Int32.ofNat n)), .val (.ref b397), .val (.ref b449), .unset] [(.int (bi (7 < n → own_ok (C.getD 7 0))))])) _
                              refine XS.ifNo X764.here hx rfl (hb hby at_519) rfl ((if0 _ _).trans (feq ((bi_n hc766) : ¬ ((bi (7 < n → own_ok (C.getD 7 0))) = (0 : Int32)))).1) ?_
                              show Steps p.tables e below (T764.setTop (mkF m 522 #[.val (.int p0), .val (.long q1), .second, .val (.long q2), .second, .val (.long q3), .second, .val (.int (p0 &&& (7 : Int32))), .val (.int (Int32.ofNat n)), .val (.ref b397), .val (.ref b449), .unset] [])) _
                              refine XS.aload X764.here hx rfl (hb hby at_522) rfl rfl ?_
                              show Steps p.tables e below (T764.setTop (mkF m 524 #[.val (.int p0), .val (.long q1), .second, .val (.long q2), .second, .val (.long q3), .second, .val (.int (p0 &&& (7 : Int32))), .val (.int (Int32.ofNat n)), .val (.ref b397), .val (.ref b449), .unset] [(.ref b397)])) _
                              refine XS.iload X764.here hx rfl (hb hby at_524) rfl ?_
                              show Steps p.tables e below (T764.setTop (mkF m 526 #[.val (.int p0), .val (.long q1), .second, .val (.long q2), .second, .val (.long q3), .second, .val (.int (p0 &&& (7 : Int32))), .val (.int (Int32.ofNat n)), .val (.ref b397), .val (.ref b449), .unset] [(.int (Int32.ofNat n)), (.ref b397)])) _
                              refine XS.bipush X764.here hx rfl (hb hby at_526) ?_
                              show Steps p.tables e below (T764.setTop (mkF m 528 #[.val (.int p0), .val (.long q1), .second, .val (.long q2), .second, .val (.long q3), .second, .val (.int (p0 &&& (7 : Int32))), .val (.int (Int32.ofNat n)), .val (.ref b397), .val (.ref b449), .unset] [(.int (8 : Int32)), (.int (Int32.ofNat n)), (.ref b397)])) _
                              refine st767 _ ?_
                              exact k
                            by_cases hc769 : 8 < n → own_ok (C.getD 8 0)
                            · obtain ⟨_, _, ⟨T770, L770, k770, n770⟩, -, X770, ⟨Lc770, hQ770, l770, y770, z770⟩, st770⟩ := Jvm.LawKit.callS X767 hx (y := (⟨"com/example/delay_buckets/delaybuckets/NamesIsValidPinLaw", "okAt", "([CII)Z"⟩ : MethodName)) hown (mvT hZ (hw _ (List.mem_of_getElem? (i := 71) rfl))) (mvT hZ (hw _ (List.mem_of_getElem? (i := 72) rfl))) (mvT hZ (hw _ (List.mem_of_getElem? (i := 73) rfl))) (mvT hZ (hw _ (List.mem_of_getElem? (i := 74) rfl))) (by decide) (backOf (W := 0) (rmOka l Z a0 hw [] b397 (9 : Int32) n 9 k397 C h733 h0.size (by omega) P733_5 ((by first | decide | omega | assumption) : n ≤ 12) (rfl : (9 : Int32) = (Int32.ofNat 9)) ((by decide) : 9 < 12) ((by first | decide | omega | assumption) : C.length = 12)) hZ (hw _ (List.mem_of_getElem? (i := 74) rfl)) (hw _ (List.mem_of_getElem? (i := 73) rfl)) (by decide) (by decide)) (g := (mkF m 540 #[.val (.int p0), .val (.long q1), .second, .val (.long q2), .second, .val (.long q3), .second, .val (.int (p0 &&& (7 : Int32))), .val (.int (Int32.ofNat n)), .val (.ref b397), .val (.ref b449), .unset] [(.int (9 : Int32)), (.int (Int32.ofNat n)), (.ref b397)])) rfl (by rw [hml]; rfl) (argsL := [(.ref b397), (.int (Int32.ofNat n)), (.int (9 : Int32))]) (rest := []) (lenOf pd_18 rfl) rfl (by show 2 * 0 + _ ≤ _; exact Nat.le_of_eq rfl) (hb hby at_540) (fun _ _ => ⟨rfl, e767, (by decide : 2 + 0 ≤ _), (by decide : 24 + 0 ≤ _)⟩)
                              dsimp only [Pt.U, Pt.locs, Pt.cells, Pt.slots] at X770 l770 y770 z770 st770 hQ770
                              subst l770 y770 z770
                              obtain ⟨rfl, N770q, e770⟩ := hQ770
                              have N770 := Fr.app N767 N770q
                              have pre771 : ∀ t, Steps p.tables e below (T770.setTop (mkF m 543 #[.val (.int p0), .val (.long q1), .second, .val (.long q2), .second, .val (.long q3), .second, .val (.int (p0 &&& (7 : Int32))), .val (.int (Int32.ofNat n)), .val (.ref b397), .val (.ref b449), .unset] [(.int (bi (9 < n → own_ok (C.getD 9 0))))])) t → Steps p.tables e below (T733.setTop (mkF m 426 #[.val (.int p0), .val (.long q1), .second, .val (.long q2), .second, .val (.long q3), .second, .val (.int (p0 &&& (7 : Int32))), .val (.int (Int32.ofNat n)), .val (.ref b397), .val (.ref b449), .unset] [])) t := fun t k => by
                                refine pre768 _ ?_
                                show Steps p.tables e below (T767.setTop (mkF m 531 #[.val (.int p0), .val (.long q1), .second, .val (.long q2), .second, .val (.long q3), .second, .val (.int (p0 &&& (7 : Int32))), .val (.int (Int32.ofNat n)), .val (.ref b397), .val (.ref b449), .unset] [(.int (bi (8 < n → own_ok (C.getD 8 0))))])) _
                                refine XS.ifNo X767.here hx rfl (hb hby at_531) rfl ((if0 _ _).trans (feq ((bi_n hc769) : ¬ ((bi (8 < n → own_ok (C.getD 8 0))) = (0 : Int32)))).1) ?_
                                show Steps p.tables e below (T767.setTop (mkF m 534 #[.val (.int p0), .val (.long q1), .second, .val (.long q2), .second, .val (.long q3), .second, .val (.int (p0 &&& (7 : Int32))), .val (.int (Int32.ofNat n)), .val (.ref b397), .val (.ref b449), .unset] [])) _
                                refine XS.aload X767.here hx rfl (hb hby at_534) rfl rfl ?_
                                show Steps p.tables e below (T767.setTop (mkF m 536 #[.val (.int p0), .val (.long q1), .second, .val (.long q2), .second, .val (.long q3), .second, .val (.int (p0 &&& (7 : Int32))), .val (.int (Int32.ofNat n)), .val (.ref b397), .val (.ref b449), .unset] [(.ref b397)])) _
                                refine XS.iload X767.here hx rfl (hb hby at_536) rfl ?_
                                show Steps p.tables e below (T767.setTop (mkF m 538 #[.val (.int p0), .val (.long q1), .second, .val (.long q2), .second, .val (.long q3), .second, .val (.int (p0 &&& (7 : Int32))), .val (.int (Int32.ofNat n)), .val (.ref b397), .val (.ref b449), .unset] [(.int (Int32.ofNat n)), (.ref b397)])) _
                                refine XS.bipush X767.here hx rfl (hb hby at_538) ?_
                                show Steps p.tables e below (T767.setTop (mkF m 540 #[.val (.int p0), .val (.long q1), .second, .val (.long q2), .second, .val (.long q3), .second, .val (.int (p0 &&& (7 : Int32))), .val (.int (Int32.ofNat n)), .val (.ref b397), .val (.ref b449), .unset] [(.int (9 : Int32)), (.int (Int32.ofNat n)), (.ref b397)])) _
                                refine st770 _ ?_
                                exact k
                              by_cases hc772 : 9 < n → own_ok (C.getD 9 0)
                              · obtain ⟨_, _, ⟨T773, L773, k773, n773⟩, -, X773, ⟨Lc773, hQ773, l773, y773, z773⟩, st773⟩ := Jvm.LawKit.callS X770 hx (y := (⟨"com/example/delay_buckets/delaybuckets/NamesIsValidPinLaw", "okAt", "([CII)Z"⟩ : MethodName)) hown (mvT hZ (hw _ (List.mem_of_getElem? (i := 71) rfl))) (mvT hZ (hw _ (List.mem_of_getElem? (i := 72) rfl))) (mvT hZ (hw _ (List.mem_of_getElem? (i := 73) rfl))) (mvT hZ (hw _ (List.mem_of_getElem? (i := 74) rfl))) (by decide) (backOf (W := 0) (rmOka l Z a0 hw [] b397 (10 : Int32) n 10 k397 C h733 h0.size (by omega) P733_5 ((by first | decide | omega | assumption) : n ≤ 12) (rfl : (10 : Int32) = (Int32.ofNat 10)) ((by decide) : 10 < 12) ((by first | decide | omega | assumption) : C.length = 12)) hZ (hw _ (List.mem_of_getElem? (i := 74) rfl)) (hw _ (List.mem_of_getElem? (i := 73) rfl)) (by decide) (by decide)) (g := (mkF m 552 #[.val (.int p0), .val (.long q1), .second, .val (.long q2), .second, .val (.long q3), .second, .val (.int (p0 &&& (7 : Int32))), .val (.int (Int32.ofNat n)), .val (.ref b397), .val (.ref b449), .unset] [(.int (10 : Int32)), (.int (Int32.ofNat n)), (.ref b397)])) rfl (by rw [hml]; rfl) (argsL := [(.ref b397), (.int (Int32.ofNat n)), (.int (10 : Int32))]) (rest := []) (lenOf pd_18 rfl) rfl (by show 2 * 0 + _ ≤ _; exact Nat.le_of_eq rfl) (hb hby at_552) (fun _ _ => ⟨rfl, e770, (by decide : 2 + 0 ≤ _), (by decide : 24 + 0 ≤ _)⟩)
                                dsimp only [Pt.U, Pt.locs, Pt.cells, Pt.slots] at X773 l773 y773 z773 st773 hQ773
                                subst l773 y773 z773
                                obtain ⟨rfl, N773q, e773⟩ := hQ773
                                have N773 := Fr.app N770 N773q
                                have pre774 : ∀ t, Steps p.tables e below (T773.setTop (mkF m 555 #[.val (.int p0), .val (.long q1), .second, .val (.long q2), .second, .val (.long q3), .second, .val (.int (p0 &&& (7 : Int32))), .val (.int (Int32.ofNat n)), .val (.ref b397), .val (.ref b449), .unset] [(.int (bi (10 < n → own_ok (C.getD 10 0))))])) t → Steps p.tables e below (T733.setTop (mkF m 426 #[.val (.int p0), .val (.long q1), .second, .val (.long q2), .second, .val (.long q3), .second, .val (.int (p0 &&& (7 : Int32))), .val (.int (Int32.ofNat n)), .val (.ref b397), .val (.ref b449), .unset] [])) t := fun t k => by
                                  refine pre771 _ ?_
                                  show Steps p.tables e below (T770.setTop (mkF m 543 #[.val (.int p0), .val (.long q1), .second, .val (.long q2), .second, .val (.long q3), .second, .val (.int (p0 &&& (7 : Int32))), .val (.int (Int32.ofNat n)), .val (.ref b397), .val (.ref b449), .unset] [(.int (bi (9 < n → own_ok (C.getD 9 0))))])) _
                                  refine XS.ifNo X770.here hx rfl (hb hby at_543) rfl ((if0 _ _).trans (feq ((bi_n hc772) : ¬ ((bi (9 < n → own_ok (C.getD 9 0))) = (0 : Int32)))).1) ?_
                                  show Steps p.tables e below (T770.setTop (mkF m 546 #[.val (.int p0), .val (.long q1), .second, .val (.long q2), .second, .val (.long q3), .second, .val (.int (p0 &&& (7 : Int32))), .val (.int (Int32.ofNat n)), .val (.ref b397), .val (.ref b449), .unset] [])) _
                                  refine XS.aload X770.here hx rfl (hb hby at_546) rfl rfl ?_
                                  show Steps p.tables e below (T770.setTop (mkF m 548 #[.val (.int p0), .val (.long q1), .second, .val (.long q2), .second, .val (.long q3), .second, .val (.int (p0 &&& (7 : Int32))), .val (.int (Int32.ofNat n)), .val (.ref b397), .val (.ref b449), .unset] [(.ref b397)])) _
                                  refine XS.iload X770.here hx rfl (hb hby at_548) rfl ?_
                                  show Steps p.tables e below (T770.setTop (mkF m 550 #[.val (.int p0), .val (.long q1), .second, .val (.long q2), .second, .val (.long q3), .second, .val (.int (p0 &&& (7 : Int32))), .val (.int (Int32.ofNat n)), .val (.ref b397), .val (.ref b449), .unset] [(.int (Int32.ofNat n)), (.ref b397)])) _
                                  refine XS.bipush X770.here hx rfl (hb hby at_550) ?_
                                  show Steps p.tables e below (T770.setTop (mkF m 552 #[.val (.int p0), .val (.long q1), .second, .val (.long q2), .second, .val (.long q3), .second, .val (.int (p0 &&& (7 : Int32))), .val (.int (Int32.ofNat n)), .val (.ref b397), .val (.ref b449), .unset] [(.int (10 : Int32)), (.int (Int32.ofNat n)), (.ref b397)])) _
                                  refine st773 _ ?_
                                  exact k
                                by_cases hc775 : 10 < n → own_ok (C.getD 10 0)
                                · obtain ⟨_, _, ⟨T776, L776, k776, n776⟩, -, X776, ⟨Lc776, hQ776, l776, y776, z776⟩, st776⟩ := Jvm.LawKit.callS X773 hx (y := (⟨"com/example/delay_buckets/delaybuckets/NamesIsValidPinLaw", "okAt", "([CII)Z"⟩ : MethodName)) hown (mvT hZ (hw _ (List.mem_of_getElem? (i := 71) rfl))) (mvT hZ (hw _ (List.mem_of_getElem? (i := 72) rfl))) (mvT hZ (hw _ (List.mem_of_getElem? (i := 73) rfl))) (mvT hZ (hw _ (List.mem_of_getElem? (i := 74) rfl))) (by decide) (backOf (W := 0) (rmOka l Z a0 hw [] b397 (11 : Int32) n 11 k397 C h733 h0.size (by omega) P733_5 ((by first | decide | omega | assumption) : n ≤ 12) (rfl : (11 : Int32) = (Int32.ofNat 11)) ((by decide) : 11 < 12) ((by first | decide | omega | assumption) : C.length = 12)) hZ (hw _ (List.mem_of_getElem? (i := 74) rfl)) (hw _ (List.mem_of_getElem? (i := 73) rfl)) (by decide) (by decide)) (g := (mkF m 564 #[.val (.int p0), .val (.long q1), .second, .val (.long q2), .second, .val (.long q3), .second, .val (.int (p0 &&& (7 : Int32))), .val (.int (Int32.ofNat n)), .val (.ref b397), .val (.ref b449), .unset] [(.int (11 : Int32)), (.int (Int32.ofNat n)), (.ref b397)])) rfl (by rw [hml]; rfl) (argsL := [(.ref b397), (.int (Int32.ofNat n)), (.int (11 : Int32))]) (rest := []) (lenOf pd_18 rfl) rfl (by show 2 * 0 + _ ≤ _; exact Nat.le_of_eq rfl) (hb hby at_564) (fun _ _ => ⟨rfl, e773, (by decide : 2 + 0 ≤ _), (by decide : 24 + 0 ≤ _)⟩)
                                  dsimp only [Pt.U, Pt.locs, Pt.cells, Pt.slots] at X776 l776 y776 z776 st776 hQ776
                                  subst l776 y776 z776
                                  obtain ⟨rfl, N776q, e776⟩ := hQ776
                                  have N776 := Fr.app N773 N776q
                                  have pre777 : ∀ t, Steps p.tables e below (T776.setTop (mkF m 567 #[.val (.int p0), .val (.long q1), .second, .val (.long q2), .second, .val (.long q3), .second, .val (.int (p0 &&& (7 : Int32))), .val (.int (Int32.ofNat n)), .val (.ref b397), .val (.ref b449), .unset] [(.int (bi (11 < n → own_ok (C.getD 11 0))))])) t → Steps p.tables e below (T733.setTop (mkF m 426 #[.val (.int p0), .val (.long q1), .second, .val (.long q2), .second, .val (.long q3), .second, .val (.int (p0 &&& (7 : Int32))), .val (.int (Int32.ofNat n)), .val (.ref b397), .val (.ref b449), .unset] [])) t := fun t k => by
                                    refine pre774 _ ?_
                                    show Steps p.tables e below (T773.setTop (mkF m 555 #[.val (.int p0), .val (.long q1), .second, .val (.long q2), .second, .val (.long q3), .second, .val (.int (p0 &&& (7 : Int32))), .val (.int (Int32.ofNat n)), .val (.ref b397), .val (.ref b449), .unset] [(.int (bi (10 < n → own_ok (C.getD 10 0))))])) _
                                    refine XS.ifNo X773.here hx rfl (hb hby at_555) rfl ((if0 _ _).trans (feq ((bi_n hc775) : ¬ ((bi (10 < n → own_ok (C.getD 10 0))) = (0 : Int32)))).1) ?_
                                    show Steps p.tables e below (T773.setTop (mkF m 558 #[.val (.int p0), .val (.long q1), .second, .val (.long q2), .second, .val (.long q3), .second, .val (.int (p0 &&& (7 : Int32))), .val (.int (Int32.ofNat n)), .val (.ref b397), .val (.ref b449), .unset] [])) _
                                    refine XS.aload X773.here hx rfl (hb hby at_558) rfl rfl ?_
                                    show Steps p.tables e below (T773.setTop (mkF m 560 #[.val (.int p0), .val (.long q1), .second, .val (.long q2), .second, .val (.long q3), .second, .val (.int (p0 &&& (7 : Int32))), .val (.int (Int32.ofNat n)), .val (.ref b397), .val (.ref b449), .unset] [(.ref b397)])) _
                                    refine XS.iload X773.here hx rfl (hb hby at_560) rfl ?_
                                    show Steps p.tables e below (T773.setTop (mkF m 562 #[.val (.int p0), .val (.long q1), .second, .val (.long q2), .second, .val (.long q3), .second, .val (.int (p0 &&& (7 : Int32))), .val (.int (Int32.ofNat n)), .val (.ref b397), .val (.ref b449), .unset] [(.int (Int32.ofNat n)), (.ref b397)])) _
                                    refine XS.bipush X773.here hx rfl (hb hby at_562) ?_
                                    show Steps p.tables e below (T773.setTop (mkF m 564 #[.val (.int p0), .val (.long q1), .second, .val (.long q2), .second, .val (.long q3), .second, .val (.int (p0 &&& (7 : Int32))), .val (.int (Int32.ofNat n)), .val (.ref b397), .val (.ref b449), .unset] [(.int (11 : Int32)), (.int (Int32.ofNat n)), (.ref b397)])) _
                                    refine st776 _ ?_
                                    exact k
                                  by_cases hc778 : 11 < n → own_ok (C.getD 11 0)
                                  · have hall : ∀ k, k < 12 → k < n → own_ok (C.getD k 0) := by
                                      intro k hk
                                      match k, hk with
                                      | 0, _ => exact hc745
                                      | 1, _ => exact hc748
                                      | 2, _ => exact hc751
                                      | 3, _ => exact hc754
                                      | 4, _ => exact hc757
                                      | 5, _ => exact hc760
                                      | 6, _ => exact hc763
                                      | 7, _ => exact hc766
                                      | 8, _ => exact hc769
                                      | 9, _ => exact hc772
                                      | 10, _ => exact hc775
                                      | 11, _ => exact hc778
                                    have pre779 : ∀ t, Steps p.tables e below (T776.setTop (mkF m 577 #[.val (.int p0), .val (.long q1), .second, .val (.long q2), .second, .val (.long q3), .second, .val (.int (p0 &&& (7 : Int32))), .val (.int (Int32.ofNat n)), .val (.ref b397), .val (.ref b449), .val (.int (1 : Int32))] [])) t → Steps p.tables e below (T733.setTop (mkF m 426 #[.val (.int p0), .val (.long q1), .second, .val (.long q2), .second, .val (.long q3), .second, .val (.int (p0 &&& (7 : Int32))), .val (.int (Int32.ofNat n)), .val (.ref b397), .val (.ref b449), .unset] [])) t := fun t k => by
                                      refine pre777 _ ?_
                                      show Steps p.tables e below (T776.setTop (mkF m 567 #[.val (.int p0), .val (.long q1), .second, .val (.long q2), .second, .val (.long q3), .second, .val (.int (p0 &&& (7 : Int32))), .val (.int (Int32.ofNat n)), .val (.ref b397), .val (.ref b449), .unset] [(.int (bi (11 < n → own_ok (C.getD 11 0))))])) _
                                      refine XS.ifNo X776.here hx rfl (hb hby at_567) rfl ((if0 _ _).trans (feq ((bi_n hc778) : ¬ ((bi (11 < n → own_ok (C.getD 11 0))) = (0 : Int32)))).1) ?_
                                      show Steps p.tables e below (T776.setTop (mkF m 570 #[.val (.int p0), .val (.long q1), .second, .val (.long q2), .second, .val (.long q3), .second, .val (.int (p0 &&& (7 : Int32))), .val (.int (Int32.ofNat n)), .val (.ref b397), .val (.ref b449), .unset] [])) _
                                      refine XS.iconst X776.here hx rfl (hb hby at_570) ?_
                                      show Steps p.tables e below (T776.setTop (mkF m 571 #[.val (.int p0), .val (.long q1), .second, .val (.long q2), .second, .val (.long q3), .second, .val (.int (p0 &&& (7 : Int32))), .val (.int (Int32.ofNat n)), .val (.ref b397), .val (.ref b449), .unset] [(.int (1 : Int32))])) _
                                      refine XS.goto X776.here hx rfl (pc0 := 571) (pc' := 575) rfl (hb hby at_571) (by decide) (by decide) ?_
                                      show Steps p.tables e below (T776.setTop (mkF m 575 #[.val (.int p0), .val (.long q1), .second, .val (.long q2), .second, .val (.long q3), .second, .val (.int (p0 &&& (7 : Int32))), .val (.int (Int32.ofNat n)), .val (.ref b397), .val (.ref b449), .unset] [(.int (1 : Int32))])) _
                                      refine XS.istore X776.here hx rfl (hb hby at_575) rfl (l' := #[.val (.int p0), .val (.long q1), .second, .val (.long q2), .second, .val (.long q3), .second, .val (.int (p0 &&& (7 : Int32))), .val (.int (Int32.ofNat n)), .val (.ref b397), .val (.ref b449), .val (.int (1 : Int32))]) rfl ?_
                                      exact k
                                    have pre780 : ∀ t, Steps p.tables e below (T776.setTop (mkF m 577 #[.val (.int p0), .val (.long q1), .second, .val (.long q2), .second, .val (.long q3), .second, .val (.int (p0 &&& (7 : Int32))), .val (.int (Int32.ofNat n)), .val (.ref b397), .val (.ref b449), .val (.int (bi (own_val cs)))] [])) t → Steps p.tables e below (T733.setTop (mkF m 426 #[.val (.int p0), .val (.long q1), .second, .val (.long q2), .second, .val (.long q3), .second, .val (.int (p0 &&& (7 : Int32))), .val (.int (Int32.ofNat n)), .val (.ref b397), .val (.ref b449), .unset] [])) t := fun t k => pre779 t (by rw [(show (1 : Int32) = bi (own_val cs) from (bi_t (own_va gcs hc740 hn hC hall)).symm)]; exact k)
                                    exact ⟨_, _, X776, e776, N776, fun t kt => pre780 t kt⟩
                                  · have pre781 : ∀ t, Steps p.tables e below (T776.setTop (mkF m 577 #[.val (.int p0), .val (.long q1), .second, .val (.long q2), .second, .val (.long q3), .second, .val (.int (p0 &&& (7 : Int32))), .val (.int (Int32.ofNat n)), .val (.ref b397), .val (.ref b449), .val (.int (0 : Int32))] [])) t → Steps p.tables e below (T733.setTop (mkF m 426 #[.val (.int p0), .val (.long q1), .second, .val (.long q2), .second, .val (.long q3), .second, .val (.int (p0 &&& (7 : Int32))), .val (.int (Int32.ofNat n)), .val (.ref b397), .val (.ref b449), .unset] [])) t := fun t k => by
                                      refine pre777 _ ?_
                                      show Steps p.tables e below (T776.setTop (mkF m 567 #[.val (.int p0), .val (.long q1), .second, .val (.long q2), .second, .val (.long q3), .second, .val (.int (p0 &&& (7 : Int32))), .val (.int (Int32.ofNat n)), .val (.ref b397), .val (.ref b449), .unset] [(.int (bi (11 < n → own_ok (C.getD 11 0))))])) _
                                      refine XS.ifYes X776.here hx rfl (pc0 := 567) (pc' := 574) rfl (hb hby at_567) rfl ((if0 _ _).trans (teq ((bi_f hc778) : (bi (11 < n → own_ok (C.getD 11 0))) = (0 : Int32))).1) (by decide) (by decide) ?_
                                      show Steps p.tables e below (T776.setTop (mkF m 574 #[.val (.int p0), .val (.long q1), .second, .val (.long q2), .second, .val (.long q3), .second, .val (.int (p0 &&& (7 : Int32))), .val (.int (Int32.ofNat n)), .val (.ref b397), .val (.ref b449), .unset] [])) _
                                      refine XS.iconst X776.here hx rfl (hb hby at_574) ?_
                                      show Steps p.tables e below (T776.setTop (mkF m 575 #[.val (.int p0), .val (.long q1), .second, .val (.long q2), .second, .val (.long q3), .second, .val (.int (p0 &&& (7 : Int32))), .val (.int (Int32.ofNat n)), .val (.ref b397), .val (.ref b449), .unset] [(.int (0 : Int32))])) _
                                      refine XS.istore X776.here hx rfl (hb hby at_575) rfl (l' := #[.val (.int p0), .val (.long q1), .second, .val (.long q2), .second, .val (.long q3), .second, .val (.int (p0 &&& (7 : Int32))), .val (.int (Int32.ofNat n)), .val (.ref b397), .val (.ref b449), .val (.int (0 : Int32))]) rfl ?_
                                      exact k
                                    have pre782 : ∀ t, Steps p.tables e below (T776.setTop (mkF m 577 #[.val (.int p0), .val (.long q1), .second, .val (.long q2), .second, .val (.long q3), .second, .val (.int (p0 &&& (7 : Int32))), .val (.int (Int32.ofNat n)), .val (.ref b397), .val (.ref b449), .val (.int (bi (own_val cs)))] [])) t → Steps p.tables e below (T733.setTop (mkF m 426 #[.val (.int p0), .val (.long q1), .second, .val (.long q2), .second, .val (.long q3), .second, .val (.int (p0 &&& (7 : Int32))), .val (.int (Int32.ofNat n)), .val (.ref b397), .val (.ref b449), .unset] [])) t := fun t k => pre781 t (by rw [(show (0 : Int32) = bi (own_val cs) from (bi_f (fun q => hc778 (own_vk gcs (by omega) q 11))).symm)]; exact k)
                                    exact ⟨_, _, X776, e776, N776, fun t kt => pre782 t kt⟩
                                · have pre783 : ∀ t, Steps p.tables e below (T773.setTop (mkF m 577 #[.val (.int p0), .val (.long q1), .second, .val (.long q2), .second, .val (.long q3), .second, .val (.int (p0 &&& (7 : Int32))), .val (.int (Int32.ofNat n)), .val (.ref b397), .val (.ref b449), .val (.int (0 : Int32))] [])) t → Steps p.tables e below (T733.setTop (mkF m 426 #[.val (.int p0), .val (.long q1), .second, .val (.long q2), .second, .val (.long q3), .second, .val (.int (p0 &&& (7 : Int32))), .val (.int (Int32.ofNat n)), .val (.ref b397), .val (.ref b449), .unset] [])) t := fun t k => by
                                    refine pre774 _ ?_
                                    show Steps p.tables e below (T773.setTop (mkF m 555 #[.val (.int p0), .val (.long q1), .second, .val (.long q2), .second, .val (.long q3), .second, .val (.int (p0 &&& (7 : Int32))), .val (.int (Int32.ofNat n)), .val (.ref b397), .val (.ref b449), .unset] [(.int (bi (10 < n → own_ok (C.getD 10 0))))])) _
                                    refine XS.ifYes X773.here hx rfl (pc0 := 555) (pc' := 574) rfl (hb hby at_555) rfl ((if0 _ _).trans (teq ((bi_f hc775) : (bi (10 < n → own_ok (C.getD 10 0))) = (0 : Int32))).1) (by decide) (by decide) ?_
                                    show Steps p.tables e below (T773.setTop (mkF m 574 #[.val (.int p0), .val (.long q1), .second, .val (.long q2), .second, .val (.long q3), .second, .val (.int (p0 &&& (7 : Int32))), .val (.int (Int32.ofNat n)), .val (.ref b397), .val (.ref b449), .unset] [])) _
                                    refine XS.iconst X773.here hx rfl (hb hby at_574) ?_
                                    show Steps p.tables e below (T773.setTop (mkF m 575 #[.val (.int p0), .val (.long q1), .second, .val (.long q2), .second, .val (.long q3), .second, .val (.int (p0 &&& (7 : Int32))), .val (.int (Int32.ofNat n)), .val (.ref b397), .val (.ref b449), .unset] [(.int (0 : Int32))])) _
                                    refine XS.istore X773.here hx rfl (hb hby at_575) rfl (l' := #[.val (.int p0), .val (.long q1), .second, .val (.long q2), .second, .val (.long q3), .second, .val (.int (p0 &&& (7 : Int32))), .val (.int (Int32.ofNat n)), .val (.ref b397), .val (.ref b449), .val (.int (0 : Int32))]) rfl ?_
                                    exact k
                                  have pre784 : ∀ t, Steps p.tables e below (T773.setTop (mkF m 577 #[.val (.int p0), .val (.long q1), .second, .val (.long q2), .second, .val (.long q3), .second, .val (.int (p0 &&& (7 : Int32))), .val (.int (Int32.ofNat n)), .val (.ref b397), .val (.ref b449), .val (.int (bi (own_val cs)))] [])) t → Steps p.tables e below (T733.setTop (mkF m 426 #[.val (.int p0), .val (.long q1), .second, .val (.long q2), .second, .val (.long q3), .second, .val (.int (p0 &&& (7 : Int32))), .val (.int (Int32.ofNat n)), .val (.ref b397), .val (.ref b449), .unset] [])) t := fun t k => pre783 t (by rw [(show (0 : Int32) = bi (own_val cs) from (bi_f (fun q => hc775 (own_vk gcs (by omega) q 10))).symm)]; exact k)
                                  exact ⟨_, _, X773, e773, N773, fun t kt => pre784 t kt⟩
                              · have pre785 : ∀ t, Steps p.tables e below (T770.setTop (mkF m 577 #[.val (.int p0), .val (.long q1), .second, .val (.long q2), .second, .val (.long q3), .second, .val (.int (p0 &&& (7 : Int32))), .val (.int (Int32.ofNat n)), .val (.ref b397), .val (.ref b449), .val (.int (0 : Int32))] [])) t → Steps p.tables e below (T733.setTop (mkF m 426 #[.val (.int p0), .val (.long q1), .second, .val (.long q2), .second, .val (.long q3), .second, .val (.int (p0 &&& (7 : Int32))), .val (.int (Int32.ofNat n)), .val (.ref b397), .val (.ref b449), .unset] [])) t := fun t k => by
                                  refine pre771 _ ?_
                                  show Steps p.tables e below (T770.setTop (mkF m 543 #[.val (.int p0), .val (.long q1), .second, .val (.long q2), .second, .val (.long q3), .second, .val (.int (p0 &&& (7 : Int32))), .val (.int (Int32.ofNat n)), .val (.ref b397), .val (.ref b449), .unset] [(.int (bi (9 < n → own_ok (C.getD 9 0))))])) _
                                  refine XS.ifYes X770.here hx rfl (pc0 := 543) (pc' := 574) rfl (hb hby at_543) rfl ((if0 _ _).trans (teq ((bi_f hc772) : (bi (9 < n → own_ok (C.getD 9 0))) = (0 : Int32))).1) (by decide) (by decide) ?_
                                  show Steps p.tables e below (T770.setTop (mkF m 574 #[.val (.int p0), .val (.long q1), .second, .val (.long q2), .second, .val (.long q3), .second, .val (.int (p0 &&& (7 : Int32))), .val (.int (Int32.ofNat n)), .val (.ref b397), .val (.ref b449), .unset] [])) _
                                  refine XS.iconst X770.here hx rfl (hb hby at_574) ?_
                                  show Steps p.tables e below (T770.setTop (mkF m 575 #[.val (.int p0), .val (.long q1), .second, .val (.long q2), .second, .val (.long q3), .second, .val (.int (p0 &&& (7 : Int32))), .val (.int (Int32.ofNat n)), .val (.ref b397), .val (.ref b449), .unset] [(.int (0 : Int32))])) _
                                  refine XS.istore X770.here hx rfl (hb hby at_575) rfl (l' := #[.val (.int p0), .val (.long q1), .second, .val (.long q2), .second, .val (.long q3), .second, .val (.int (p0 &&& (7 : Int32))), .val (.int (Int32.ofNat n)), .val (.ref b397), .val (.ref b449), .val (.int (0 : Int32))]) rfl ?_
                                  exact k
                                have pre786 : ∀ t, Steps p.tables e below (T770.setTop (mkF m 577 #[.val (.int p0), .val (.long q1), .second, .val (.long q2), .second, .val (.long q3), .second, .val (.int (p0 &&& (7 : Int32))), .val (.int (Int32.ofNat n)), .val (.ref b397), .val (.ref b449), .val (.int (bi (own_val cs)))] [])) t → Steps p.tables e below (T733.setTop (mkF m 426 #[.val (.int p0), .val (.long q1), .second, .val (.long q2), .second, .val (.long q3), .second, .val (.int (p0 &&& (7 : Int32))), .val (.int (Int32.ofNat n)), .val (.ref b397), .val (.ref b449), .unset] [])) t := fun t k => pre785 t (by rw [(show (0 : Int32) = bi (own_val cs) from (bi_f (fun q => hc772 (own_vk gcs (by omega) q 9))).symm)]; exact k)
                                exact ⟨_, _, X770, e770, N770, fun t kt => pre786 t kt⟩
                            · have pre787 : ∀ t, Steps p.tables e below (T767.setTop (mkF m 577 #[.val (.int p0), .val (.long q1), .second, .val (.long q2), .second, .val (.long q3), .second, .val (.int (p0 &&& (7 : Int32))), .val (.int (Int32.ofNat n)), .val (.ref b397), .val (.ref b449), .val (.int (0 : Int32))] [])) t → Steps p.tables e below (T733.setTop (mkF m 426 #[.val (.int p0), .val (.long q1), .second, .val (.long q2), .second, .val (.long q3), .second, .val (.int (p0 &&& (7 : Int32))), .val (.int (Int32.ofNat n)), .val (.ref b397), .val (.ref b449), .unset] [])) t := fun t k => by
                                refine pre768 _ ?_
                                show Steps p.tables e below (T767.setTop (mkF m 531 #[.val (.int p0), .val (.long q1), .second, .val (.long q2), .second, .val (.long q3), .second, .val (.int (p0 &&& (7 : Int32))), .val (.int (Int32.ofNat n)), .val (.ref b397), .val (.ref b449), .unset] [(.int (bi (8 < n → own_ok (C.getD 8 0))))])) _
                                refine XS.ifYes X767.here hx rfl (pc0 := 531) (pc' := 574) rfl (hb hby at_531) rfl ((if0 _ _).trans (teq ((bi_f hc769) : (bi (8 < n → own_ok (C.getD 8 0))) = (0 : Int32))).1) (by decide) (by decide) ?_
                                show Steps p.tables e below (T767.setTop (mkF m 574 #[.val (.int p0), .val (.long q1), .second, .val (.long q2), .second, .val (.long q3), .second, .val (.int (p0 &&& (7 : Int32))), .val (.int (Int32.ofNat n)), .val (.ref b397), .val (.ref b449), .unset] [])) _
                                refine XS.iconst X767.here hx rfl (hb hby at_574) ?_
                                show Steps p.tables e below (T767.setTop (mkF m 575 #[.val (.int p0), .val (.long q1), .second, .val (.long q2), .second, .val (.long q3), .second, .val (.int (p0 &&& (7 : Int32))), .val (.int (Int32.ofNat n)), .val (.ref b397), .val (.ref b449), .unset] [(.int (0 : Int32))])) _
                                refine XS.istore X767.here hx rfl (hb hby at_575) rfl (l' := #[.val (.int p0), .val (.long q1), .second, .val (.long q2), .second, .val (.long q3), .second, .val (.int (p0 &&& (7 : Int32))), .val (.int (Int32.ofNat n)), .val (.ref b397), .val (.ref b449), .val (.int (0 : Int32))]) rfl ?_
                                exact k
                              have pre788 : ∀ t, Steps p.tables e below (T767.setTop (mkF m 577 #[.val (.int p0), .val (.long q1), .second, .val (.long q2), .second, .val (.long q3), .second, .val (.int (p0 &&& (7 : Int32))), .val (.int (Int32.ofNat n)), .val (.ref b397), .val (.ref b449), .val (.int (bi (own_val cs)))] [])) t → Steps p.tables e below (T733.setTop (mkF m 426 #[.val (.int p0), .val (.long q1), .second, .val (.long q2), .second, .val (.long q3), .second, .val (.int (p0 &&& (7 : Int32))), .val (.int (Int32.ofNat n)), .val (.ref b397), .val (.ref b449), .unset] [])) t := fun t k => pre787 t (by rw [(show (0 : Int32) = bi (own_val cs) from (bi_f (fun q => hc769 (own_vk gcs (by omega) q 8))).symm)]; exact k)
                              exact ⟨_, _, X767, e767, N767, fun t kt => pre788 t kt⟩
                          · have pre789 : ∀ t, Steps p.tables e below (T764.setTop (mkF m 577 #[.val (.int p0), .val (.long q1), .second, .val (.long q2), .second, .val (.long q3), .second, .val (.int (p0 &&& (7 : Int32))), .val (.int (Int32.ofNat n)), .val (.ref b397), .val (.ref b449), .val (.int (0 : Int32))] [])) t → Steps p.tables e below (T733.setTop (mkF m 426 #[.val (.int p0), .val (.long q1), .second, .val (.long q2), .second, .val (.long q3), .second, .val (.int (p0 &&& (7 : Int32))), .val (.int (Int32.ofNat n)), .val (.ref b397), .val (.ref b449), .unset] [])) t := fun t k => by
                              refine pre765 _ ?_
                              show Steps p.tables e below (T764.setTop (mkF m 519 #[.val (.int p0), .val (.long q1), .second, .val (.long q2), .second, .val (.long q3), .second, .val (.int (p0 &&& (7 : Int32))), .val (.int (Int32.ofNat n)), .val (.ref b397), .val (.ref b449), .unset] [(.int (bi (7 < n → own_ok (C.getD 7 0))))])) _
                              refine XS.ifYes X764.here hx rfl (pc0 := 519) (pc' := 574) rfl (hb hby at_519) rfl ((if0 _ _).trans (teq ((bi_f hc766) : (bi (7 < n → own_ok (C.getD 7 0))) = (0 : Int32))).1) (by decide) (by decide) ?_
                              show Steps p.tables e below (T764.setTop (mkF m 574 #[.val (.int p0), .val (.long q1), .second, .val (.long q2), .second, .val (.long q3), .second, .val (.int (p0 &&& (7 : Int32))), .val (.int (Int32.ofNat n)), .val (.ref b397), .val (.ref b449), .unset] [])) _
                              refine XS.iconst X764.here hx rfl (hb hby at_574) ?_
                              show Steps p.tables e below (T764.setTop (mkF m 575 #[.val (.int p0), .val (.long q1), .second, .val (.long q2), .second, .val (.long q3), .second, .val (.int (p0 &&& (7 : Int32))), .val (.int (Int32.ofNat n)), .val (.ref b397), .val (.ref b449), .unset] [(.int (0 : Int32))])) _
                              refine XS.istore X764.here hx rfl (hb hby at_575) rfl (l' := #[.val (.int p0), .val (.long q1), .second, .val (.long q2), .second, .val (.long q3), .second, .val (.int (p0 &&& (7 : Int32))), .val (.int (Int32.ofNat n)), .val (.ref b397), .val (.ref b449), .val (.int (0 : Int32))]) rfl ?_
                              exact k
                            have pre790 : ∀ t, Steps p.tables e below (T764.setTop (mkF m 577 #[.val (.int p0), .val (.long q1), .second, .val (.long q2), .second, .val (.long q3), .second, .val (.int (p0 &&& (7 : Int32))), .val (.int (Int32.ofNat n)), .val (.ref b397), .val (.ref b449), .val (.int (bi (own_val cs)))] [])) t → Steps p.tables e below (T733.setTop (mkF m 426 #[.val (.int p0), .val (.long q1), .second, .val (.long q2), .second, .val (.long q3), .second, .val (.int (p0 &&& (7 : Int32))), .val (.int (Int32.ofNat n)), .val (.ref b397), .val (.ref b449), .unset] [])) t := fun t k => pre789 t (by rw [(show (0 : Int32) = bi (own_val cs) from (bi_f (fun q => hc766 (own_vk gcs (by omega) q 7))).symm)]; exact k)
                            exact ⟨_, _, X764, e764, N764, fun t kt => pre790 t kt⟩
                        · have pre791 : ∀ t, Steps p.tables e below (T761.setTop (mkF m 577 #[.val (.int p0), .val (.long q1), .second, .val (.long q2), .second, .val (.long q3), .second, .val (.int (p0 &&& (7 : Int32))), .val (.int (Int32.ofNat n)), .val (.ref b397), .val (.ref b449), .val (.int (0 : Int32))] [])) t → Steps p.tables e below (T733.setTop (mkF m 426 #[.val (.int p0), .val (.long q1), .second, .val (.long q2), .second, .val (.long q3), .second, .val (.int (p0 &&& (7 : Int32))), .val (.int (Int32.ofNat n)), .val (.ref b397), .val (.ref b449), .unset] [])) t := fun t k => by
                            refine pre762 _ ?_
                            show Steps p.tables e below (T761.setTop (mkF m 507 #[.val (.int p0), .val (.long q1), .second, .val (.long q2), .second, .val (.long q3), .second, .val (.int (p0 &&& (7 : Int32))), .val (.int (Int32.ofNat n)), .val (.ref b397), .val (.ref b449), .unset] [(.int (bi (6 < n → own_ok (C.getD 6 0))))])) _
                            refine XS.ifYes X761.here hx rfl (pc0 := 507) (pc' := 574) rfl (hb hby at_507) rfl ((if0 _ _).trans (teq ((bi_f hc763) : (bi (6 < n → own_ok (C.getD 6 0))) = (0 : Int32))).1) (by decide) (by decide) ?_
                            show Steps p.tables e below (T761.setTop (mkF m 574 #[.val (.int p0), .val (.long q1), .second, .val (.long q2), .second, .val (.long q3), .second, .val (.int (p0 &&& (7 : Int32))), .val (.int (Int32.ofNat n)), .val (.ref b397), .val (.ref b449), .unset] [])) _
                            refine XS.iconst X761.here hx rfl (hb hby at_574) ?_
                            show Steps p.tables e below (T761.setTop (mkF m 575 #[.val (.int p0), .val (.long q1), .second, .val (.long q2), .second, .val (.long q3), .second, .val (.int (p0 &&& (7 : Int32))), .val (.int (Int32.ofNat n)), .val (.ref b397), .val (.ref b449), .unset] [(.int (0 : Int32))])) _
                            refine XS.istore X761.here hx rfl (hb hby at_575) rfl (l' := #[.val (.int p0), .val (.long q1), .second, .val (.long q2), .second, .val (.long q3), .second, .val (.int (p0 &&& (7 : Int32))), .val (.int (Int32.ofNat n)), .val (.ref b397), .val (.ref b449), .val (.int (0 : Int32))]) rfl ?_
                            exact k
                          have pre792 : ∀ t, Steps p.tables e below (T761.setTop (mkF m 577 #[.val (.int p0), .val (.long q1), .second, .val (.long q2), .second, .val (.long q3), .second, .val (.int (p0 &&& (7 : Int32))), .val (.int (Int32.ofNat n)), .val (.ref b397), .val (.ref b449), .val (.int (bi (own_val cs)))] [])) t → Steps p.tables e below (T733.setTop (mkF m 426 #[.val (.int p0), .val (.long q1), .second, .val (.long q2), .second, .val (.long q3), .second, .val (.int (p0 &&& (7 : Int32))), .val (.int (Int32.ofNat n)), .val (.ref b397), .val (.ref b449), .unset] [])) t := fun t k => pre791 t (by rw [(show (0 : Int32) = bi (own_val cs) from (bi_f (fun q => hc763 (own_vk gcs (by omega) q 6))).symm)]; exact k)
                          exact ⟨_, _, X761, e761, N761, fun t kt => pre792 t kt⟩
                      · have pre793 : ∀ t, Steps p.tables e below (T758.setTop (mkF m 577 #[.val (.int p0), .val (.long q1), .second, .val (.long q2), .second, .val (.long q3), .second, .val (.int (p0 &&& (7 : Int32))), .val (.int (Int32.ofNat n)), .val (.ref b397), .val (.ref b449), .val (.int (0 : Int32))] [])) t → Steps p.tables e below (T733.setTop (mkF m 426 #[.val (.int p0), .val (.long q1), .second, .val (.long q2), .second, .val (.long q3), .second, .val (.int (p0 &&& (7 : Int32))), .val (.int (Int32.ofNat n)), .val (.ref b397), .val (.ref b449), .unset] [])) t := fun t k => by
                          refine pre759 _ ?_
                          show Steps p.tables e below (T758.setTop (mkF m 495 #[.val (.int p0), .val (.long q1), .second, .val (.long q2), .second, .val (.long q3), .second, .val (.int (p0 &&& (7 : Int32))), .val (.int (Int32.ofNat n)), .val (.ref b397), .val (.ref b449), .unset] [(.int (bi (5 < n → own_ok (C.getD 5 0))))])) _
                          refine XS.ifYes X758.here hx rfl (pc0 := 495) (pc' := 574) rfl (hb hby at_495) rfl ((if0 _ _).trans (teq ((bi_f hc760) : (bi (5 < n → own_ok (C.getD 5 0))) = (0 : Int32))).1) (by decide) (by decide) ?_
                          show Steps p.tables e below (T758.setTop (mkF m 574 #[.val (.int p0), .val (.long q1), .second, .val (.long q2), .second, .val (.long q3), .second, .val (.int (p0 &&& (7 : Int32))), .val (.int (Int32.ofNat n)), .val (.ref b397), .val (.ref b449), .unset] [])) _
                          refine XS.iconst X758.here hx rfl (hb hby at_574) ?_
                          show Steps p.tables e below (T758.setTop (mkF m 575 #[.val (.int p0), .val (.long q1), .second, .val (.long q2), .second, .val (.long q3), .second, .val (.int (p0 &&& (7 : Int32))), .val (.int (Int32.ofNat n)), .val (.ref b397), .val (.ref b449), .unset] [(.int (0 : Int32))])) _
                          refine XS.istore X758.here hx rfl (hb hby at_575) rfl (l' := #[.val (.int p0), .val (.long q1), .second, .val (.long q2), .second, .val (.long q3), .second, .val (.int (p0 &&& (7 : Int32))), .val (.int (Int32.ofNat n)), .val (.ref b397), .val (.ref b449), .val (.int (0 : Int32))]) rfl ?_
                          exact k
                        have pre794 : ∀ t, Steps p.tables e below (T758.setTop (mkF m 577 #[.val (.int p0), .val (.long q1), .second, .val (.long q2), .second, .val (.long q3), .second, .val (.int (p0 &&& (7 : Int32))), .val (.int (Int32.ofNat n)), .val (.ref b397), .val (.ref b449), .val (.int (bi (own_val cs)))] [])) t → Steps p.tables e below (T733.setTop (mkF m 426 #[.val (.int p0), .val (.long q1), .second, .val (.long q2), .second, .val (.long q3), .second, .val (.int (p0 &&& (7 : Int32))), .val (.int (Int32.ofNat n)), .val (.ref b397), .val (.ref b449), .unset] [])) t := fun t k => pre793 t (by rw [(show (0 : Int32) = bi (own_val cs) from (bi_f (fun q => hc760 (own_vk gcs (by omega) q 5))).symm)]; exact k)
                        exact ⟨_, _, X758, e758, N758, fun t kt => pre794 t kt⟩
                    · have pre795 : ∀ t, Steps p.tables e below (T755.setTop (mkF m 577 #[.val (.int p0), .val (.long q1), .second, .val (.long q2), .second, .val (.long q3), .second, .val (.int (p0 &&& (7 : Int32))), .val (.int (Int32.ofNat n)), .val (.ref b397), .val (.ref b449), .val (.int (0 : Int32))] [])) t → Steps p.tables e below (T733.setTop (mkF m 426 #[.val (.int p0), .val (.long q1), .second, .val (.long q2), .second, .val (.long q3), .second, .val (.int (p0 &&& (7 : Int32))), .val (.int (Int32.ofNat n)), .val (.ref b397), .val (.ref b449), .unset] [])) t := fun t k => by
                        refine pre756 _ ?_
                        show Steps p.tables e below (T755.setTop (mkF m 484 #[.val (.int p0), .val (.long q1), .second, .val (.long q2), .second, .val (.long q3), .second, .val (.int (p0 &&& (7 : Int32))), .val (.int (Int32.ofNat n)), .val (.ref b397), .val (.ref b449), .unset] [(.int (bi (4 < n → own_ok (C.getD 4 0))))])) _
                        refine XS.ifYes X755.here hx rfl (pc0 := 484) (pc' := 574) rfl (hb hby at_484) rfl ((if0 _ _).trans (teq ((bi_f hc757) : (bi (4 < n → own_ok (C.getD 4 0))) = (0 : Int32))).1) (by decide) (by decide) ?_
                        show Steps p.tables e below (T755.setTop (mkF m 574 #[.val (.int p0), .val (.long q1), .second, .val (.long q2), .second, .val (.long q3), .second, .val (.int (p0 &&& (7 : Int32))), .val (.int (Int32.ofNat n)), .val (.ref b397), .val (.ref b449), .unset] [])) _
                        refine XS.iconst X755.here hx rfl (hb hby at_574) ?_
                        show Steps p.tables e below (T755.setTop (mkF m 575 #[.val (.int p0), .val (.long q1), .second, .val (.long q2), .second, .val (.long q3), .second, .val (.int (p0 &&& (7 : Int32))), .val (.int (Int32.ofNat n)), .val (.ref b397), .val (.ref b449), .unset] [(.int (0 : Int32))])) _
                        refine XS.istore X755.here hx rfl (hb hby at_575) rfl (l' := #[.val (.int p0), .val (.long q1), .second, .val (.long q2), .second, .val (.long q3), .second, .val (.int (p0 &&& (7 : Int32))), .val (.int (Int32.ofNat n)), .val (.ref b397), .val (.ref b449), .val (.int (0 : Int32))]) rfl ?_
                        exact k
                      have pre796 : ∀ t, Steps p.tables e below (T755.setTop (mkF m 577 #[.val (.int p0), .val (.long q1), .second, .val (.long q2), .second, .val (.long q3), .second, .val (.int (p0 &&& (7 : Int32))), .val (.int (Int32.ofNat n)), .val (.ref b397), .val (.ref b449), .val (.int (bi (own_val cs)))] [])) t → Steps p.tables e below (T733.setTop (mkF m 426 #[.val (.int p0), .val (.long q1), .second, .val (.long q2), .second, .val (.long q3), .second, .val (.int (p0 &&& (7 : Int32))), .val (.int (Int32.ofNat n)), .val (.ref b397), .val (.ref b449), .unset] [])) t := fun t k => pre795 t (by rw [(show (0 : Int32) = bi (own_val cs) from (bi_f (fun q => hc757 (own_vk gcs (by omega) q 4))).symm)]; exact k)
                      exact ⟨_, _, X755, e755, N755, fun t kt => pre796 t kt⟩
                  · have pre797 : ∀ t, Steps p.tables e below (T752.setTop (mkF m 577 #[.val (.int p0), .val (.long q1), .second, .val (.long q2), .second, .val (.long q3), .second, .val (.int (p0 &&& (7 : Int32))), .val (.int (Int32.ofNat n)), .val (.ref b397), .val (.ref b449), .val (.int (0 : Int32))] [])) t → Steps p.tables e below (T733.setTop (mkF m 426 #[.val (.int p0), .val (.long q1), .second, .val (.long q2), .second, .val (.long q3), .second, .val (.int (p0 &&& (7 : Int32))), .val (.int (Int32.ofNat n)), .val (.ref b397), .val (.ref b449), .unset] [])) t := fun t k => by
                      refine pre753 _ ?_
                      show Steps p.tables e below (T752.setTop (mkF m 473 #[.val (.int p0), .val (.long q1), .second, .val (.long q2), .second, .val (.long q3), .second, .val (.int (p0 &&& (7 : Int32))), .val (.int (Int32.ofNat n)), .val (.ref b397), .val (.ref b449), .unset] [(.int (bi (3 < n → own_ok (C.getD 3 0))))])) _
                      refine XS.ifYes X752.here hx rfl (pc0 := 473) (pc' := 574) rfl (hb hby at_473) rfl ((if0 _ _).trans (teq ((bi_f hc754) : (bi (3 < n → own_ok (C.getD 3 0))) = (0 : Int32))).1) (by decide) (by decide) ?_
                      show Steps p.tables e below (T752.setTop (mkF m 574 #[.val (.int p0), .val (.long q1), .second, .val (.long q2), .second, .val (.long q3), .second, .val (.int (p0 &&& (7 : Int32))), .val (.int (Int32.ofNat n)), .val (.ref b397), .val (.ref b449), .unset] [])) _
                      refine XS.iconst X752.here hx rfl (hb hby at_574) ?_
                      show Steps p.tables e below (T752.setTop (mkF m 575 #[.val (.int p0), .val (.long q1), .second, .val (.long q2), .second, .val (.long q3), .second, .val (.int (p0 &&& (7 : Int32))), .val (.int (Int32.ofNat n)), .val (.ref b397), .val (.ref b449), .unset] [(.int (0 : Int32))])) _
                      refine XS.istore X752.here hx rfl (hb hby at_575) rfl (l' := #[.val (.int p0), .val (.long q1), .second, .val (.long q2), .second, .val (.long q3), .second, .val (.int (p0 &&& (7 : Int32))), .val (.int (Int32.ofNat n)), .val (.ref b397), .val (.ref b449), .val (.int (0 : Int32))]) rfl ?_
                      exact k
                    have pre798 : ∀ t, Steps p.tables e below (T752.setTop (mkF m 577 #[.val (.int p0), .val (.long q1), .second, .val (.long q2), .second, .val (.long q3), .second, .val (.int (p0 &&& (7 : Int32))), .val (.int (Int32.ofNat n)), .val (.ref b397), .val (.ref b449), .val (.int (bi (own_val cs)))] [])) t → Steps p.tables e below (T733.setTop (mkF m 426 #[.val (.int p0), .val (.long q1), .second, .val (.long q2), .second, .val (.long q3), .second, .val (.int (p0 &&& (7 : Int32))), .val (.int (Int32.ofNat n)), .val (.ref b397), .val (.ref b449), .unset] [])) t := fun t k => pre797 t (by rw [(show (0 : Int32) = bi (own_val cs) from (bi_f (fun q => hc754 (own_vk gcs (by omega) q 3))).symm)]; exact k)
                    exact ⟨_, _, X752, e752, N752, fun t kt => pre798 t kt⟩
                · have pre799 : ∀ t, Steps p.tables e below (T749.setTop (mkF m 577 #[.val (.int p0), .val (.long q1), .second, .val (.long q2), .second, .val (.long q3), .second, .val (.int (p0 &&& (7 : Int32))), .val (.int (Int32.ofNat n)), .val (.ref b397), .val (.ref b449), .val (.int (0 : Int32))] [])) t → Steps p.tables e below (T733.setTop (mkF m 426 #[.val (.int p0), .val (.long q1), .second, .val (.long q2), .second, .val (.long q3), .second, .val (.int (p0 &&& (7 : Int32))), .val (.int (Int32.ofNat n)), .val (.ref b397), .val (.ref b449), .unset] [])) t := fun t k => by
                    refine pre750 _ ?_
                    show Steps p.tables e below (T749.setTop (mkF m 462 #[.val (.int p0), .val (.long q1), .second, .val (.long q2), .second, .val (.long q3), .second, .val (.int (p0 &&& (7 : Int32))), .val (.int (Int32.ofNat n)), .val (.ref b397), .val (.ref b449), .unset] [(.int (bi (2 < n → own_ok (C.getD 2 0))))])) _
                    refine XS.ifYes X749.here hx rfl (pc0 := 462) (pc' := 574) rfl (hb hby at_462) rfl ((if0 _ _).trans (teq ((bi_f hc751) : (bi (2 < n → own_ok (C.getD 2 0))) = (0 : Int32))).1) (by decide) (by decide) ?_
                    show Steps p.tables e below (T749.setTop (mkF m 574 #[.val (.int p0), .val (.long q1), .second, .val (.long q2), .second, .val (.long q3), .second, .val (.int (p0 &&& (7 : Int32))), .val (.int (Int32.ofNat n)), .val (.ref b397), .val (.ref b449), .unset] [])) _
                    refine XS.iconst X749.here hx rfl (hb hby at_574) ?_
                    show Steps p.tables e below (T749.setTop (mkF m 575 #[.val (.int p0), .val (.long q1), .second, .val (.long q2), .second, .val (.long q3), .second, .val (.int (p0 &&& (7 : Int32))), .val (.int (Int32.ofNat n)), .val (.ref b397), .val (.ref b449), .unset] [(.int (0 : Int32))])) _
                    refine XS.istore X749.here hx rfl (hb hby at_575) rfl (l' := #[.val (.int p0), .val (.long q1), .second, .val (.long q2), .second, .val (.long q3), .second, .val (.int (p0 &&& (7 : Int32))), .val (.int (Int32.ofNat n)), .val (.ref b397), .val (.ref b449), .val (.int (0 : Int32))]) rfl ?_
                    exact k
                  have pre800 : ∀ t, Steps p.tables e below (T749.setTop (mkF m 577 #[.val (.int p0), .val (.long q1), .second, .val (.long q2), .second, .val (.long q3), .second, .val (.int (p0 &&& (7 : Int32))), .val (.int (Int32.ofNat n)), .val (.ref b397), .val (.ref b449), .val (.int (bi (own_val cs)))] [])) t → Steps p.tables e below (T733.setTop (mkF m 426 #[.val (.int p0), .val (.long q1), .second, .val (.long q2), .second, .val (.long q3), .second, .val (.int (p0 &&& (7 : Int32))), .val (.int (Int32.ofNat n)), .val (.ref b397), .val (.ref b449), .unset] [])) t := fun t k => pre799 t (by rw [(show (0 : Int32) = bi (own_val cs) from (bi_f (fun q => hc751 (own_vk gcs (by omega) q 2))).symm)]; exact k)
                  exact ⟨_, _, X749, e749, N749, fun t kt => pre800 t kt⟩
              · have pre801 : ∀ t, Steps p.tables e below (T746.setTop (mkF m 577 #[.val (.int p0), .val (.long q1), .second, .val (.long q2), .second, .val (.long q3), .second, .val (.int (p0 &&& (7 : Int32))), .val (.int (Int32.ofNat n)), .val (.ref b397), .val (.ref b449), .val (.int (0 : Int32))] [])) t → Steps p.tables e below (T733.setTop (mkF m 426 #[.val (.int p0), .val (.long q1), .second, .val (.long q2), .second, .val (.long q3), .second, .val (.int (p0 &&& (7 : Int32))), .val (.int (Int32.ofNat n)), .val (.ref b397), .val (.ref b449), .unset] [])) t := fun t k => by
                  refine pre747 _ ?_
                  show Steps p.tables e below (T746.setTop (mkF m 451 #[.val (.int p0), .val (.long q1), .second, .val (.long q2), .second, .val (.long q3), .second, .val (.int (p0 &&& (7 : Int32))), .val (.int (Int32.ofNat n)), .val (.ref b397), .val (.ref b449), .unset] [(.int (bi (1 < n → own_ok (C.getD 1 0))))])) _
                  refine XS.ifYes X746.here hx rfl (pc0 := 451) (pc' := 574) rfl (hb hby at_451) rfl ((if0 _ _).trans (teq ((bi_f hc748) : (bi (1 < n → own_ok (C.getD 1 0))) = (0 : Int32))).1) (by decide) (by decide) ?_
                  show Steps p.tables e below (T746.setTop (mkF m 574 #[.val (.int p0), .val (.long q1), .second, .val (.long q2), .second, .val (.long q3), .second, .val (.int (p0 &&& (7 : Int32))), .val (.int (Int32.ofNat n)), .val (.ref b397), .val (.ref b449), .unset] [])) _
                  refine XS.iconst X746.here hx rfl (hb hby at_574) ?_
                  show Steps p.tables e below (T746.setTop (mkF m 575 #[.val (.int p0), .val (.long q1), .second, .val (.long q2), .second, .val (.long q3), .second, .val (.int (p0 &&& (7 : Int32))), .val (.int (Int32.ofNat n)), .val (.ref b397), .val (.ref b449), .unset] [(.int (0 : Int32))])) _
                  refine XS.istore X746.here hx rfl (hb hby at_575) rfl (l' := #[.val (.int p0), .val (.long q1), .second, .val (.long q2), .second, .val (.long q3), .second, .val (.int (p0 &&& (7 : Int32))), .val (.int (Int32.ofNat n)), .val (.ref b397), .val (.ref b449), .val (.int (0 : Int32))]) rfl ?_
                  exact k
                have pre802 : ∀ t, Steps p.tables e below (T746.setTop (mkF m 577 #[.val (.int p0), .val (.long q1), .second, .val (.long q2), .second, .val (.long q3), .second, .val (.int (p0 &&& (7 : Int32))), .val (.int (Int32.ofNat n)), .val (.ref b397), .val (.ref b449), .val (.int (bi (own_val cs)))] [])) t → Steps p.tables e below (T733.setTop (mkF m 426 #[.val (.int p0), .val (.long q1), .second, .val (.long q2), .second, .val (.long q3), .second, .val (.int (p0 &&& (7 : Int32))), .val (.int (Int32.ofNat n)), .val (.ref b397), .val (.ref b449), .unset] [])) t := fun t k => pre801 t (by rw [(show (0 : Int32) = bi (own_val cs) from (bi_f (fun q => hc748 (own_vk gcs (by omega) q 1))).symm)]; exact k)
                exact ⟨_, _, X746, e746, N746, fun t kt => pre802 t kt⟩
            · have pre803 : ∀ t, Steps p.tables e below (T743.setTop (mkF m 577 #[.val (.int p0), .val (.long q1), .second, .val (.long q2), .second, .val (.long q3), .second, .val (.int (p0 &&& (7 : Int32))), .val (.int (Int32.ofNat n)), .val (.ref b397), .val (.ref b449), .val (.int (0 : Int32))] [])) t → Steps p.tables e below (T733.setTop (mkF m 426 #[.val (.int p0), .val (.long q1), .second, .val (.long q2), .second, .val (.long q3), .second, .val (.int (p0 &&& (7 : Int32))), .val (.int (Int32.ofNat n)), .val (.ref b397), .val (.ref b449), .unset] [])) t := fun t k => by
                refine pre744 _ ?_
                show Steps p.tables e below (T743.setTop (mkF m 440 #[.val (.int p0), .val (.long q1), .second, .val (.long q2), .second, .val (.long q3), .second, .val (.int (p0 &&& (7 : Int32))), .val (.int (Int32.ofNat n)), .val (.ref b397), .val (.ref b449), .unset] [(.int (bi (0 < n → own_ok (C.getD 0 0))))])) _
                refine XS.ifYes X743.here hx rfl (pc0 := 440) (pc' := 574) rfl (hb hby at_440) rfl ((if0 _ _).trans (teq ((bi_f hc745) : (bi (0 < n → own_ok (C.getD 0 0))) = (0 : Int32))).1) (by decide) (by decide) ?_
                show Steps p.tables e below (T743.setTop (mkF m 574 #[.val (.int p0), .val (.long q1), .second, .val (.long q2), .second, .val (.long q3), .second, .val (.int (p0 &&& (7 : Int32))), .val (.int (Int32.ofNat n)), .val (.ref b397), .val (.ref b449), .unset] [])) _
                refine XS.iconst X743.here hx rfl (hb hby at_574) ?_
                show Steps p.tables e below (T743.setTop (mkF m 575 #[.val (.int p0), .val (.long q1), .second, .val (.long q2), .second, .val (.long q3), .second, .val (.int (p0 &&& (7 : Int32))), .val (.int (Int32.ofNat n)), .val (.ref b397), .val (.ref b449), .unset] [(.int (0 : Int32))])) _
                refine XS.istore X743.here hx rfl (hb hby at_575) rfl (l' := #[.val (.int p0), .val (.long q1), .second, .val (.long q2), .second, .val (.long q3), .second, .val (.int (p0 &&& (7 : Int32))), .val (.int (Int32.ofNat n)), .val (.ref b397), .val (.ref b449), .val (.int (0 : Int32))]) rfl ?_
                exact k
              have pre804 : ∀ t, Steps p.tables e below (T743.setTop (mkF m 577 #[.val (.int p0), .val (.long q1), .second, .val (.long q2), .second, .val (.long q3), .second, .val (.int (p0 &&& (7 : Int32))), .val (.int (Int32.ofNat n)), .val (.ref b397), .val (.ref b449), .val (.int (bi (own_val cs)))] [])) t → Steps p.tables e below (T733.setTop (mkF m 426 #[.val (.int p0), .val (.long q1), .second, .val (.long q2), .second, .val (.long q3), .second, .val (.int (p0 &&& (7 : Int32))), .val (.int (Int32.ofNat n)), .val (.ref b397), .val (.ref b449), .unset] [])) t := fun t k => pre803 t (by rw [(show (0 : Int32) = bi (own_val cs) from (bi_f (fun q => hc745 (own_vk gcs (by omega) q 0))).symm)]; exact k)
              exact ⟨_, _, X743, e743, N743, fun t kt => pre804 t kt⟩
        obtain ⟨T805, L805, X805, e805, N805, st805⟩ := bk737
        obtain ⟨T806, h806, X806, e806, E806, A806, D806, -, st806⟩ := newO X805 hx hZ hown (hw _ (List.mem_of_getElem? (i := 2) rfl)) (hw _ (List.mem_of_getElem? (i := 3) rfl)) (hw _ (List.mem_of_getElem? (i := 4) rfl)) e805 (g := (mkF m 577 #[.val (.int p0), .val (.long q1), .second, .val (.long q2), .second, .val (.long q3), .second, .val (.int (p0 &&& (7 : Int32))), .val (.int (Int32.ofNat n)), .val (.ref b397), .val (.ref b449), .val (.int (bi (own_val cs)))] [])) rfl (hb hby at_577) (by decide) (by decide)
        obtain ⟨b806, g806⟩ : ∃ z, z = h733.size := ⟨_, rfl⟩
        rw [← g806] at A806 D806 st806
        have z807 := E806.1
        have KC808 : Keep h0 h806 [] := K733.ext E806
        have z809 : @LT.lt Nat _ b806 (Array.size h806) := A806.lt
        have F806_value : Fld Z h806 b806 "java/lang/String" "value" "[B" .null := D806 (Or.inr (hw _ (List.mem_of_getElem? (i := 17) rfl))) (ty := (.array .byte)) (by decide)
        have F806_coder : Fld Z h806 b806 "java/lang/String" "coder" "B" (.int (0 : Int32)) := D806 (Or.inr (hw _ (List.mem_of_getElem? (i := 18) rfl))) (ty := .byte) (by decide)
        have Xo810 : Ext Z.heap h806 := own_extT X00 (own_ext KC808)
        have Fc811 := (P733_0.ext E806)
        have Fc812 := (P733_1.ext E806)
        have Fc813 := (P733_2.ext E806)
        have Fc814 := (P733_3.ext E806)
        have Fc815 := (Ve.ext E806)
        have z817 := congrArg Array.size e806
        obtain ⟨_, _, ⟨T816, L816, k816, n816⟩, -, Y816, hY816, gY816, ⟨Lc816, hQ816, l816, y816, z816⟩, st816⟩ := X806.specialBackS hx (y := (⟨"java/lang/String", "<init>", "([C)V"⟩ : MethodName)) rfl hown (mvT hZ (hw _ (List.mem_of_getElem? (i := 5) rfl))) (mvT hZ (hw _ (List.mem_of_getElem? (i := 6) rfl))) (mvT hZ (hw _ (List.mem_of_getElem? (i := 7) rfl))) (by decide) (backOfI (W := 1) (rmN1 l Z a0 hw [] b806 b449 G1 k449 cs h806 h0.size (by omega) Fc811 Fc812 Fc813 Fc814 (hG1 : ¬ (G1 = (0 : Int32))) (Xo810 : Ext Z.heap h806) (hcw : Jvm.Lit.compactW.before a0 Z = true) (hh7 : Jvm.Lit.constHeld Z "java/lang/String" 7) A806 F806_value F806_coder Fc815 (by omega : h0.size ≤ b806) ((by omega) : cs.length ≤ 12) (hcs : own_bd cs)) hZ (hw _ (List.mem_of_getElem? (i := 7) rfl)) (hw _ (List.mem_of_getElem? (i := 4) rfl)) (by decide) (by decide)) (g := (mkF m 583 #[.val (.int p0), .val (.long q1), .second, .val (.long q2), .second, .val (.long q3), .second, .val (.int (p0 &&& (7 : Int32))), .val (.int (Int32.ofNat n)), .val (.ref b397), .val (.ref b449), .val (.int (bi (own_val cs)))] [(.ref b449), (.ref b806), (.ref b806)])) rfl (by rw [hml]; rfl) (Steps.refl _) (a := b806) (argsL := [(.ref b449)]) (rest := [(.ref b806)]) (lenOf pd_19 rfl) rfl (by show 2 * 0 + _ ≤ _; exact Nat.le_of_eq rfl) (hb hby at_583) (fun _ Hw => ⟨rfl, e806, (by decide : 3 + 2 ≤ _), (by decide : 28 + 36 ≤ _), own_IBw hI Hw⟩)
        dsimp only [Pt.U, Pt.locs, Pt.cells, Pt.slots] at Y816 hY816 gY816 l816 y816 z816 st816 hQ816
        subst l816 y816 z816
        obtain ⟨X816, hS816, hZ816, hw816⟩ := rebS (s := s) (vm0 := s.vm) hS0 (by omega : h0.size ≤ T806.heap.size) Y816 hY816 gY816 hZ hown
        obtain ⟨bv_816, kb_816, z_816, M_816, bs_816, rfl, N816q, K816, P816_0, P816_1, P816_2, P816_3, P816_4⟩ := hQ816
        have N816 := Fr.app N805 N816q
        have z818 := K816.1
        have KC819 : Keep h0 T816.heap [] := KC808.trans K816 (allS (Or.inr (by omega)) all0)
        have z820 : @LT.lt Nat _ b806 (Array.size T816.heap) := P816_0.lt
        have z821 : @LT.lt Nat _ b806 (Array.size T816.heap) := P816_1.lt
        have z822 : @LT.lt Nat _ b806 (Array.size T816.heap) := P816_2.lt
        have z823 : @LT.lt Nat _ bv_816 (Array.size T816.heap) := P816_3.lt
        have Fc824 := (own_staN Fc811 K816 (allS (own_nE A806) all0))
        have Fc825 := (own_staN Fc812 K816 (allS (own_nE A806) all0))
        have Fc826 := (own_staN Fc813 K816 (allS (own_nE A806) all0))
        have Fc827 := (own_staN Fc814 K816 (allS (own_nE A806) all0))
        have Fc828 := (own_staN (P733_4.ext E806) K816 (allS (own_nE A806) all0))
        obtain ⟨_, _, ⟨T829, L829, k829, n829⟩, -, X829, ⟨Lc829, hQ829, l829, y829, z829⟩, st829⟩ := Jvm.LawKit.callS X816 hx (y := (⟨"com/example/delay_buckets/delaybuckets/Names", "isValid", "(Ljava/lang/String;)Z"⟩ : MethodName)) hw816 (mvT hZ816 (hw _ (List.mem_of_getElem? (i := 23) rfl))) (mvT hZ816 (hw _ (List.mem_of_getElem? (i := 24) rfl))) (mvT hZ816 (hw _ (List.mem_of_getElem? (i := 25) rfl))) (mvT hZ816 (hw _ (List.mem_of_getElem? (i := 26) rfl))) (by decide) (backOf (W := 0) (rmIvs l Z a0 hw [] b806 G1 cs bv_816 kb_816 z_816 M_816 bs_816 fm T816.heap h0.size (by omega) Fc824 Fc825 Fc826 Fc827 (hG1 : ¬ (G1 = (0 : Int32))) Fc828 (rf : fm.isRef = true) P816_0 P816_1 P816_2 P816_3 (P816_4 : own_cod cs z_816 M_816 bs_816) ((by omega) : cs.length ≤ 1000) (hcs : own_bd cs)) hZ816 (hw _ (List.mem_of_getElem? (i := 26) rfl)) (hw _ (List.mem_of_getElem? (i := 25) rfl)) (by decide) (by decide)) (g := (mkF m 586 #[.val (.int p0), .val (.long q1), .second, .val (.long q2), .second, .val (.long q3), .second, .val (.int (p0 &&& (7 : Int32))), .val (.int (Int32.ofNat n)), .val (.ref b397), .val (.ref b449), .val (.int (bi (own_val cs)))] [(.ref b806)])) rfl (by rw [hml]; rfl) (argsL := [(.ref b806)]) (rest := []) (lenOf pd_17 rfl) rfl (by show 2 * 0 + _ ≤ _; exact Nat.le_of_eq rfl) (hb hby at_586) (fun _ _ => ⟨rfl, rfl, (by decide : 5 + 0 ≤ _), (by decide : 64 + 0 ≤ _)⟩)
        dsimp only [Pt.U, Pt.locs, Pt.cells, Pt.slots] at X829 l829 y829 z829 st829 hQ829
        subst l829 y829 z829
        obtain ⟨rfl, N829q, e829⟩ := hQ829
        have N829 := Fr.app N816 N829q
        have z830 := congrArg Array.size e829
        obtain ⟨fs, hr, hrun, hended, rE1, rE2, rE3, rE4⟩ := leaveW (s := s) (vm₁ := T816.vm) X829 hS816 (by omega : T816.heap.size ≤ T829.heap.size) (v := some (.int (1 : Int32))) (fun h => by rw [Bd.returns] at h; cases h)
        refine ⟨_, _, pre736 _ ?_, hrun, hended, _, _, rfl, ?_, rE1, rE2, rE3, rE4.mono (by decide) (by decide)⟩
        · refine st805 _ ?_
          show Steps p.tables e below (T805.setTop (mkF m 577 #[.val (.int p0), .val (.long q1), .second, .val (.long q2), .second, .val (.long q3), .second, .val (.int (p0 &&& (7 : Int32))), .val (.int (Int32.ofNat n)), .val (.ref b397), .val (.ref b449), .val (.int (bi (own_val cs)))] [])) _
          refine st806 _ ?_
          show Steps p.tables e below (T806.setTop (mkF m 580 #[.val (.int p0), .val (.long q1), .second, .val (.long q2), .second, .val (.long q3), .second, .val (.int (p0 &&& (7 : Int32))), .val (.int (Int32.ofNat n)), .val (.ref b397), .val (.ref b449), .val (.int (bi (own_val cs)))] [(.ref b806)])) _
          refine XS.dup X806.here hx rfl (hb hby at_580) rfl rfl ?_
          show Steps p.tables e below (T806.setTop (mkF m 581 #[.val (.int p0), .val (.long q1), .second, .val (.long q2), .second, .val (.long q3), .second, .val (.int (p0 &&& (7 : Int32))), .val (.int (Int32.ofNat n)), .val (.ref b397), .val (.ref b449), .val (.int (bi (own_val cs)))] [(.ref b806), (.ref b806)])) _
          refine XS.aload X806.here hx rfl (hb hby at_581) rfl rfl ?_
          show Steps p.tables e below (T806.setTop (mkF m 583 #[.val (.int p0), .val (.long q1), .second, .val (.long q2), .second, .val (.long q3), .second, .val (.int (p0 &&& (7 : Int32))), .val (.int (Int32.ofNat n)), .val (.ref b397), .val (.ref b449), .val (.int (bi (own_val cs)))] [(.ref b449), (.ref b806), (.ref b806)])) _
          refine st816.trans ?_
          show Steps p.tables e below (T816.setTop (mkF m 586 #[.val (.int p0), .val (.long q1), .second, .val (.long q2), .second, .val (.long q3), .second, .val (.int (p0 &&& (7 : Int32))), .val (.int (Int32.ofNat n)), .val (.ref b397), .val (.ref b449), .val (.int (bi (own_val cs)))] [(.ref b806)])) _
          refine st829 _ ?_
          show Steps p.tables e below (T829.setTop (mkF m 589 #[.val (.int p0), .val (.long q1), .second, .val (.long q2), .second, .val (.long q3), .second, .val (.int (p0 &&& (7 : Int32))), .val (.int (Int32.ofNat n)), .val (.ref b397), .val (.ref b449), .val (.int (bi (own_val cs)))] [(.int (bi (own_val cs)))])) _
          refine XS.iload X829.here hx rfl (hb hby at_589) rfl ?_
          show Steps p.tables e below (T829.setTop (mkF m 591 #[.val (.int p0), .val (.long q1), .second, .val (.long q2), .second, .val (.long q3), .second, .val (.int (p0 &&& (7 : Int32))), .val (.int (Int32.ofNat n)), .val (.ref b397), .val (.ref b449), .val (.int (bi (own_val cs)))] [(.int (bi (own_val cs))), (.int (bi (own_val cs)))])) _
          refine XS.icmpNo X829.here hx rfl (hb hby at_591) rfl (teq (rfl : (bi (own_val cs)) = (bi (own_val cs)))).2 ?_
          show Steps p.tables e below (T829.setTop (mkF m 594 #[.val (.int p0), .val (.long q1), .second, .val (.long q2), .second, .val (.long q3), .second, .val (.int (p0 &&& (7 : Int32))), .val (.int (Int32.ofNat n)), .val (.ref b397), .val (.ref b449), .val (.int (bi (own_val cs)))] [])) _
          refine XS.iconst X829.here hx rfl (hb hby at_594) ?_
          show Steps p.tables e below (T829.setTop (mkF m 595 #[.val (.int p0), .val (.long q1), .second, .val (.long q2), .second, .val (.long q3), .second, .val (.int (p0 &&& (7 : Int32))), .val (.int (Int32.ofNat n)), .val (.ref b397), .val (.ref b449), .val (.int (bi (own_val cs)))] [(.int (1 : Int32))])) _
          refine XS.goto X829.here hx rfl (pc0 := 595) (pc' := 599) rfl (hb hby at_595) (by decide) (by decide) ?_
          show Steps p.tables e below (T829.setTop (mkF m 599 #[.val (.int p0), .val (.long q1), .second, .val (.long q2), .second, .val (.long q3), .second, .val (.int (p0 &&& (7 : Int32))), .val (.int (Int32.ofNat n)), .val (.ref b397), .val (.ref b449), .val (.int (bi (own_val cs)))] [(.int (1 : Int32))])) _
          exact retN X829 hx (t := .boolean) Bd.returns (by simp) (hb hby at_599) hr
        · show Qrm0 Z p0 q1 q2 q3 G1 fm h0 n0 _ T829.heap _
          rw [e829]
          exact ⟨rfl, (fun y hy => Nat.le_trans Z0 (N829 y hy)), KC819⟩
set_option maxRecDepth 65536 in
set_option maxHeartbeats 40000000 in
theorem comes_1 {Post : Tables → Env → Array Value → State → Outcome → State → Prop} (hpost : ∀ tb e args s v u, (limb_1_1.after args s (.returned v) u = true ∧ limb_1_2.after args s (.returned v) u = true ∧ True) → ReturnedEndW s (.returned v) u (Jvm.fieldLocs frame_1_writes args s ++ Jvm.arrayLocs frame_1_arrays args s ++ Jvm.staticLocs frame_1_statics s) 24 3328 → Post tb e args s (.returned v) u) :
    ArmFor flags0 classFile x code maxLocals ret World_1 tables_1 room_1 Calls_1 rest_1 Pre_1 Post := by
  intro l hfl _ _ p e ha hc hk s m args below hf hA hF happ hP
  obtain ⟨hcalls, hrest, hpre⟩ := hP
  obtain ⟨-, -, -, hnamed, -, -, -, hat⟩ := (Spec.applies_iff hf).mp happ
  obtain ⟨hg, hn⟩ := and_e (Cond.before_iff.mp (show (Jvm.Cond.and given_1 narrow_1).before args s = true from hpre))
  obtain ⟨gg0, gr0⟩ := and_e hg
  obtain ⟨gg1, gr1⟩ := and_e gr0
  obtain ⟨gg2, gr2⟩ := and_e gr1
  obtain ⟨gg3, gg4⟩ := and_e gr2
  obtain ⟨w0, w1, w2, w3, rfl⟩ : ∃ w0 w1 w2 w3 : Value, args = #[w0, w1, w2, w3] := by
    have hs : args.size = 4 := by simpa [Cond.value, given_1] using gg0
    obtain ⟨L⟩ := args
    match L, hs with
    | [w0, w1, w2, w3], _ => exact ⟨w0, w1, w2, w3, rfl⟩
  have hw := fun d (hd : d ∈ tables_1) => atoms_spec (ws := Jvm.Cond.code x code maxLocals ret :: tables_1) hat d (List.mem_cons_of_mem _ hd)
  have hfit : Fit s := fun {y c} hc i hi => by
    obtain ⟨ha, rfl⟩ := Array.getElem?_eq_some_iff.mp hc
    have q := List.all_eq_true.mp ((Array.all_eq_true_iff_forall_mem.mp hF) _ (Array.getElem_mem ha)) i (List.mem_range.mpr hi)
    simpa [Array.getElem?_eq_getElem hi] using q
  obtain ⟨hsets, hown0⟩ := atoms_of _ (rest_1_c_eq ▸ (show rest_1_c.before _ s = true from hrest))
  obtain ⟨i0, ei0⟩ := is_v gg1
  obtain rfl : w0 = (.int i0) := Option.some.inj ei0
  obtain ⟨i1, ei1⟩ := isL_v gg2
  obtain rfl : w1 = (.long i1) := Option.some.inj ei1
  obtain ⟨i2, ei2⟩ := isL_v gg3
  obtain rfl : w2 = (.long i2) := Option.some.inj ei2
  obtain ⟨i3, ei3⟩ := isL_v gg4
  obtain rfl : w3 = (.long i3) := Option.some.inj ei3
  obtain ⟨G1, vG1⟩ := is_v (Cond.before_iff.mp (hsets _ (List.mem_of_getElem? (i := 1) rfl)))
  have S_COMPACT := Sta.start vG1 (Or.inl (hsets _ (List.mem_of_getElem? (i := 0) rfl)))
  have hG1 : ¬ (G1 = (0 : Int32)) := gotF (Cond.eq_ints vG1 (Term.int_eval 0)) (not_v (Cond.before_iff.mp (hsets _ (List.mem_of_getElem? (i := 2) rfl))))
  have S_AD := Sta.start (own_eqI (Cond.before_iff.mp (hsets _ (List.mem_of_getElem? (i := 12) rfl)))) (Or.inl (hsets _ (List.mem_of_getElem? (i := 11) rfl)))
  have S_HI := Sta.start (own_eqI (Cond.before_iff.mp (hsets _ (List.mem_of_getElem? (i := 15) rfl)))) (Or.inl (hsets _ (List.mem_of_getElem? (i := 14) rfl)))
  have S_LO := Sta.start (own_eqI (Cond.before_iff.mp (hsets _ (List.mem_of_getElem? (i := 18) rfl)))) (Or.inl (hsets _ (List.mem_of_getElem? (i := 17) rfl)))
  obtain ⟨fm, vfm, rf⟩ := isR_v (Cond.before_iff.mp (hsets _ (List.mem_of_getElem? (i := 8) rfl)))
  have S_SIO := Sta.start vfm (Or.inl (hsets _ (List.mem_of_getElem? (i := 7) rfl)))
  have hcw : Jvm.Lit.compactW.before _ s = true := (hsets _ (List.mem_of_getElem? (i := 2) rfl))
  have hH := hcalls.1
  obtain ⟨n, o, h1, h2, h3, _, L, rfl, ⟨rfl, N, -⟩, hq⟩ := rm0 l s _ hw tables_1 i0 i1 i2 i3 G1 fm s.heap s.heap.size (Nat.le_refl _) S_AD S_HI S_LO S_COMPACT hG1 S_SIO rf ⟨Nat.le_refl _, fun _ _ k => k⟩ hcw (hH _ (List.mem_of_getElem? (i := 2) rfl)) (hH _ (List.mem_of_getElem? (i := 0) rfl)) (hH _ (List.mem_of_getElem? (i := 1) rfl)) p e ha hc hk s m _ below hf ((Spec.applies_iff_loose hf).mp happ).1 ⟨rfl, State.Warmed39.refl s, rfl, IB.start⟩ trivial
  exact ⟨n, _, h1, h2, h3, hpost _ _ _ _ _ _ ⟨Cond.after_iff.mpr rfl, Cond.after_iff.mpr (eq_i res_at (Term.int_eval (1)) rfl), trivial⟩ ⟨hq.1, hq.2.1, hq.2.2.1, (hq.2.2.2.sift fun y hy => Or.inr (N y hy)).mono (by decide) (by decide)⟩⟩
theorem main_1_1 : Claimed_1_1 := comes_1 fun _ _ _ _ _ _ h hF => ⟨h.1, hF⟩
theorem main_1_2 : Claimed_1_2 := comes_1 fun _ _ _ _ _ _ h hF => ⟨h.2.1, hF⟩
end Jvm.Pilot.@@N@@
namespace Jvm.Pilot.@@N@@
open Jvm Jvm.ClassFile Sem Op Lib Jvm.Free Jvm.Stand Jvm.Pilot.@@N@@.Jvm.D
/-! MADE BY PROGRAM (witnessworld.py) out of the Statement's table words and the real class files: 20 classes; the members and pool entries that the words name. The judged class is class 1, her method 1. -/
namespace start1
open Jvm.ClassFile
def u (s : String) : CpInfo := .utf8 (stringToUtf16 s)
/-- a pool by its gaps: so many unusable entries, then the entry; so many at the end -/
def gap : Nat → List CpInfo → List CpInfo
  | 0, r => r
  | n + 1, r => .unusable :: gap n r
def poolList (es : List (Nat × CpInfo)) (last : Nat) : List CpInfo := es.foldr (fun e r => gap e.1 (e.2 :: r)) (gap last [])
def pool (es : List (Nat × CpInfo)) (last : Nat) : Array CpInfo := ⟨poolList es last⟩
def fileOf (pool : Array CpInfo) (this : Nat) (attrs : Array Attribute := #[]) (ms : Array MethodInfo := #[]) (fl : Nat := 33) (sup : Nat := 0) (ifs : Array Nat := #[]) (fds : Array FieldInfo := #[]) : ClassFile where
  minorVersion := 0
  majorVersion := 65
  constantPool := pool
  accessFlags := fl
  thisClass := this
  superClass := sup
  interfaces := ifs
  fields := fds
  methods := ms
  attributes := attrs
def plain (name : String) (sup : Option ClassId) : Class where
  name := name
  kind := .ordinary
  loader := none
  accessFlags := 33
  super := sup
  interfaces := #[]
  cf := none
  fields := #[]
  methods := #[]
  instanceTypes := #[]
  staticTypes := #[]
  resolved := #[]
  callSites := []
  init := .initialized
  statics := none
  mirror := none

def pool0 : Array CpInfo := pool [(5, u "<init>"), (0, u "()V"), (1, .class_ 10), (1, u "java/lang/Object")] 113

def k0c0 : Code := { maxStack := 0, maxLocals := 1, code := object_method_1_code, exceptionTable := #[], attributes := #[] }
def k0m0 : Method := { name := "<init>", desc := "()V", sig := { parameters := [], returnType := none }, accessFlags := 1, code := some k0c0 }
/-- java/lang/Object -/
def k0 : Class := { plain "java/lang/Object" none with
  accessFlags := 33
  interfaces := #[]
  cf := some (fileOf pool0 8 #[] #[{ accessFlags := 1, nameIndex := 5, descriptorIndex := 6, attributes := #[] }] 33 0 #[] #[])
  fields := #[]
  methods := #[k0m0]
  instanceTypes := #[]
  staticTypes := #[]
  resolved := Array.replicate 124 none
  statics := none }

def pool1 : Array CpInfo := pool [(2, .class_ 4), (1, u "java/lang/Object"), (0, u "<init>"), (0, u "()V"), (0, .methodref 8 9), (0, .class_ 10), (0, .nameAndType 11 12), (0, u "com/example/delay_buckets/delaybuckets/Names"), (0, u "isValid"), (0, u "(Ljava/lang/String;)Z"), (0, .string 14), (0, u "ABCDEFGHIJKLMNOPQRSTUVWXYZabcdefghijklmnopqrstuvwxyz0123456789._:-ABCDEFGHIJKLMNOPQRSTUVWXYZabcdefghijklmnopqrstuvwxyz0123456789"), (0, .methodref 16 17), (0, .class_ 18), (0, .nameAndType 19 20), (0, u "java/lang/String"), (0, u "length"), (0, u "()I"), (0, .string 22), (0, u "ABCDEFGHIJKLMNOPQRSTUVWXYZabcdefghijklmnopqrstuvwxyz0123456789._:-ABCDEFGHIJKLMNOPQRSTUVWXYZabcdefghijklmnopqrstuvwxyz0123456789_"), (0, .integer 2147483647), (0, .methodref 25 26), (0, .class_ 27), (0, .nameAndType 28 29), (0, u "com/example/delay_buckets/delaybuckets/NamesIsValidPinLaw"), (0, u "okAt"), (0, u "([CII)Z"), (0, .methodref 16 31), (0, .nameAndType 5 32), (0, u "([C)V"), (0, .methodref 25 34), (0, .nameAndType 35 36), (0, u "allowed"), (0, u "(C)Z"), (2, u "law"), (0, u "(IJJJ)Z")] 5

def k1m0 : Method := { name := "<init>", desc := "()V", sig := { parameters := [], returnType := none }, accessFlags := 2, code := none }
def k1c1 : Code := { maxStack := 5, maxLocals := 12, code := code, exceptionTable := #[], attributes := #[] }
def k1m1 : Method := { name := "law", desc := "(IJJJ)Z", sig := { parameters := [.int, .long, .long, .long], returnType := some .boolean }, accessFlags := 9, code := some k1c1 }
def k1c2 : Code := { maxStack := 2, maxLocals := 3, code := method_3_code, exceptionTable := #[], attributes := #[] }
def k1m2 : Method := { name := "okAt", desc := "([CII)Z", sig := { parameters := [(.array .char), .int, .int], returnType := some .boolean }, accessFlags := 10, code := some k1c2 }
def k1c3 : Code := { maxStack := 2, maxLocals := 1, code := method_4_code, exceptionTable := #[], attributes := #[] }
def k1m3 : Method := { name := "allowed", desc := "(C)Z", sig := { parameters := [.char], returnType := some .boolean }, accessFlags := 10, code := some k1c3 }
/-- com/example/delay_buckets/delaybuckets/NamesIsValidPinLaw -/
def k1 : Class := { plain "com/example/delay_buckets/delaybuckets/NamesIsValidPinLaw" (some 0) with
  accessFlags := 49
  interfaces := #[]
  cf := some (fileOf pool1 25 #[] #[{ accessFlags := 2, nameIndex := 5, descriptorIndex := 6, attributes := #[] }, { accessFlags := 9, nameIndex := 39, descriptorIndex := 40, attributes := #[] }, { accessFlags := 10, nameIndex := 28, descriptorIndex := 29, attributes := #[] }, { accessFlags := 10, nameIndex := 35, descriptorIndex := 36, attributes := #[] }] 49 2 #[] #[])
  fields := #[]
  methods := #[k1m0, k1m1, k1m2, k1m3]
  instanceTypes := #[]
  staticTypes := #[]
  resolved := Array.replicate 46 none
  statics := none }

def pool2 : Array CpInfo := pool [(1, .class_ 2), (0, u "java/io/Serializable"), (0, .class_ 4), (0, u "java/lang/Object")] 2

/-- java/io/Serializable -/
def k2 : Class := { plain "java/io/Serializable" (some 0) with
  accessFlags := 1537
  interfaces := #[]
  cf := some (fileOf pool2 1 #[] #[] 1537 3 #[] #[])
  fields := #[]
  methods := #[]
  instanceTypes := #[]
  staticTypes := #[]
  resolved := Array.replicate 7 none
  statics := none }

def pool3 : Array CpInfo := pool [(1, .class_ 2), (0, u "java/lang/Comparable"), (0, .class_ 4), (0, u "java/lang/Object")] 7

/-- java/lang/Comparable -/
def k3 : Class := { plain "java/lang/Comparable" (some 0) with
  accessFlags := 1537
  interfaces := #[]
  cf := some (fileOf pool3 1 #[] #[] 1537 3 #[] #[])
  fields := #[]
  methods := #[]
  instanceTypes := #[]
  staticTypes := #[]
  resolved := Array.replicate 12 none
  statics := none }

def pool4 : Array CpInfo := pool [(2, .class_ 4), (1, u "java/lang/CharSequence"), (42, .class_ 48), (0, u "java/lang/CharSequence$1CodePointIterator"), (10, .class_ 60), (0, u "java/lang/CharSequence$1CharIterator"), (5, .class_ 67), (0, u "java/lang/Object")] 63

/-- java/lang/CharSequence -/
def k4 : Class := { plain "java/lang/CharSequence" (some 0) with
  accessFlags := 1537
  interfaces := #[]
  cf := some (fileOf pool4 2 #[.nestMembers #[47, 59]] #[] 1537 66 #[] #[])
  fields := #[]
  methods := #[]
  instanceTypes := #[]
  staticTypes := #[]
  resolved := Array.replicate 131 none
  statics := none }

def pool5 : Array CpInfo := pool [(1, .class_ 2), (0, u "java/lang/constant/Constable"), (0, .class_ 4), (0, u "java/lang/Object")] 6

/-- java/lang/constant/Constable -/
def k5 : Class := { plain "java/lang/constant/Constable" (some 0) with
  accessFlags := 1537
  interfaces := #[]
  cf := some (fileOf pool5 1 #[] #[] 1537 3 #[] #[])
  fields := #[]
  methods := #[]
  instanceTypes := #[]
  staticTypes := #[]
  resolved := Array.replicate 11 none
  statics := none }

def pool6 : Array CpInfo := pool [(1, .class_ 2), (0, u "java/lang/constant/ConstantDesc"), (0, .class_ 4), (0, u "java/lang/Object")] 32

/-- java/lang/constant/ConstantDesc -/
def k6 : Class := { plain "java/lang/constant/ConstantDesc" (some 0) with
  accessFlags := 1537
  interfaces := #[]
  cf := some (fileOf pool6 1 #[] #[] 1537 3 #[] #[])
  fields := #[]
  methods := #[]
  instanceTypes := #[]
  staticTypes := #[]
  resolved := Array.replicate 37 none
  statics := none }

def pool7 : Array CpInfo := pool [(1, .methodref 2 3), (0, .class_ 4), (0, .nameAndType 5 6), (0, u "java/lang/Object"), (0, u "<init>"), (0, u "()V"), (0, .string 8), (0, u ""), (0, .fieldref 10 11), (0, .class_ 12), (0, .nameAndType 13 14), (0, u "java/lang/String"), (0, u "value"), (0, u "[B"), (0, .fieldref 10 16), (0, .nameAndType 17 18), (0, u "coder"), (0, u "B"), (2, u "hash"), (0, u "I"), (2, u "hashIsZero"), (0, u "Z"), (0, .methodref 10 28), (0, .nameAndType 5 29), (0, u "([CIILjava/lang/Void;)V"), (8, .fieldref 10 39), (0, .nameAndType 40 26), (0, u "COMPACT_STRINGS"), (1, .class_ 44), (1, u "java/lang/StringUTF16"), (0, u "compress"), (1, .methodref 42 48), (0, .nameAndType 49 50), (0, u "coderFromArrayLen"), (0, u "([BI)B"), (56, .class_ 109), (1, u "java/lang/StringLatin1"), (32, u "()Z"), (34, .methodref 42 178), (0, .nameAndType 45 179), (0, u "([CII)[B"), (154, u "()I"), (0, .methodref 10 336), (0, .nameAndType 17 337), (0, u "()B"), (25, u "([BI)C"), (27, u "(II)V"), (35, u "(I)C"), (64, .methodref 10 493), (0, .nameAndType 494 142), (0, u "isLatin1"), (0, .methodref 107 496), (0, .nameAndType 497 363), (0, u "charAt"), (0, .methodref 42 496), (2, u "checkIndex"), (5, u "length"), (67, .class_ 576), (0, u "java/lang/CharSequence"), (22, u "CASE_INSENSITIVE_ORDER"), (0, u "Ljava/util/Comparator;"), (91, u "isEmpty"), (317, u "([C)V"), (42, .fieldref 1054 1055), (0, .class_ 1056), (0, .nameAndType 1057 1058), (0, u "jdk/internal/util/Preconditions"), (0, u "SIOOBE_FORMATTER"), (0, u "Ljava/util/function/BiFunction;"), (0, .methodref 1054 1060), (0, .nameAndType 501 1061), (0, u "(IILjava/util/function/BiFunction;)I"), (39, u "serialPersistentFields"), (0, u "[Ljava/io/ObjectStreamField;"), (0, .class_ 1104), (0, u "java/lang/String$CaseInsensitiveComparator"), (1, .class_ 1107), (0, u "java/io/Serializable"), (0, .class_ 1109), (0, u "java/lang/Comparable"), (0, .class_ 1111), (0, u "java/lang/constant/Constable"), (0, .class_ 1113), (0, u "java/lang/constant/ConstantDesc"), (2, u "serialVersionUID"), (0, u "J"), (3, u "REPL"), (0, u "C"), (2, u "LATIN1"), (1, u "UTF16")] 323

def k7m0 : Method := { name := "<init>", desc := "()V", sig := { parameters := [], returnType := none }, accessFlags := 1, code := none }
def k7c1 : Code := { maxStack := 5, maxLocals := 2, code := jdk_42_method_3_code, exceptionTable := #[], attributes := #[] }
def k7m1 : Method := { name := "<init>", desc := "([C)V", sig := { parameters := [(.array .char)], returnType := none }, accessFlags := 1, code := some k7c1 }
def k7c2 : Code := { maxStack := 2, maxLocals := 1, code := jdk_42_method_54_code, exceptionTable := #[], attributes := #[] }
def k7m2 : Method := { name := "length", desc := "()I", sig := { parameters := [], returnType := some .int }, accessFlags := 1, code := some k7c2 }
def k7c3 : Code := { maxStack := 1, maxLocals := 1, code := jdk_42_method_55_code, exceptionTable := #[], attributes := #[] }
def k7m3 : Method := { name := "isEmpty", desc := "()Z", sig := { parameters := [], returnType := some .boolean }, accessFlags := 1, code := some k7c3 }
def k7c4 : Code := { maxStack := 2, maxLocals := 2, code := jdk_42_method_56_code, exceptionTable := #[], attributes := #[] }
def k7m4 : Method := { name := "charAt", desc := "(I)C", sig := { parameters := [.int], returnType := some .char }, accessFlags := 1, code := some k7c4 }
def k7c5 : Code := { maxStack := 4, maxLocals := 6, code := jdk_42_method_149_code, exceptionTable := #[], attributes := #[] }
def k7m5 : Method := { name := "<init>", desc := "([CIILjava/lang/Void;)V", sig := { parameters := [(.array .char), .int, .int, (.object "java/lang/Void")], returnType := none }, accessFlags := 2, code := some k7c5 }
def k7c6 : Code := { maxStack := 1, maxLocals := 1, code := jdk_42_method_152_code, exceptionTable := #[], attributes := #[] }
def k7m6 : Method := { name := "coder", desc := "()B", sig := { parameters := [], returnType := some .byte }, accessFlags := 0, code := some k7c6 }
def k7c7 : Code := { maxStack := 1, maxLocals := 1, code := jdk_42_method_154_code, exceptionTable := #[], attributes := #[] }
def k7m7 : Method := { name := "isLatin1", desc := "()Z", sig := { parameters := [], returnType := some .boolean }, accessFlags := 0, code := some k7c7 }
def k7c8 : Code := { maxStack := 3, maxLocals := 2, code := jdk_42_method_155_code, exceptionTable := #[], attributes := #[] }
def k7m8 : Method := { name := "checkIndex", desc := "(II)V", sig := { parameters := [.int, .int], returnType := none }, accessFlags := 8, code := some k7c8 }
/-- java/lang/String -/
def k7 : Class := { plain "java/lang/String" (some 0) with
  accessFlags := 49
  interfaces := #[2, 3, 4, 5, 6]
  cf := some (fileOf pool7 10 #[.nestMembers #[1103]] #[{ accessFlags := 1, nameIndex := 5, descriptorIndex := 6, attributes := #[] }, { accessFlags := 1, nameIndex := 5, descriptorIndex := 1010, attributes := #[] }, { accessFlags := 1, nameIndex := 507, descriptorIndex := 334, attributes := #[] }, { accessFlags := 1, nameIndex := 692, descriptorIndex := 142, attributes := #[] }, { accessFlags := 1, nameIndex := 497, descriptorIndex := 427, attributes := #[] }, { accessFlags := 2, nameIndex := 5, descriptorIndex := 29, attributes := #[] }, { accessFlags := 0, nameIndex := 17, descriptorIndex := 337, attributes := #[] }, { accessFlags := 0, nameIndex := 494, descriptorIndex := 142, attributes := #[] }, { accessFlags := 8, nameIndex := 501, descriptorIndex := 391, attributes := #[] }] 49 2 #[1106, 1108, 575, 1110, 1112] #[{ accessFlags := 18, nameIndex := 13, descriptorIndex := 14, attributes := #[] }, { accessFlags := 18, nameIndex := 17, descriptorIndex := 18, attributes := #[] }, { accessFlags := 2, nameIndex := 21, descriptorIndex := 22, attributes := #[] }, { accessFlags := 2, nameIndex := 25, descriptorIndex := 26, attributes := #[] }, { accessFlags := 26, nameIndex := 1116, descriptorIndex := 1117, attributes := #[] }, { accessFlags := 24, nameIndex := 40, descriptorIndex := 26, attributes := #[] }, { accessFlags := 26, nameIndex := 1101, descriptorIndex := 1102, attributes := #[] }, { accessFlags := 26, nameIndex := 1121, descriptorIndex := 1122, attributes := #[] }, { accessFlags := 25, nameIndex := 599, descriptorIndex := 600, attributes := #[] }, { accessFlags := 24, nameIndex := 1125, descriptorIndex := 18, attributes := #[] }, { accessFlags := 24, nameIndex := 1127, descriptorIndex := 18, attributes := #[] }])
  fields := #[{ name := "value", type := (.array .byte), accessFlags := 18, slot := 0, constantValue := 0 }, { name := "coder", type := .byte, accessFlags := 18, slot := 1, constantValue := 0 }, { name := "hash", type := .int, accessFlags := 2, slot := 2, constantValue := 0 }, { name := "hashIsZero", type := .boolean, accessFlags := 2, slot := 3, constantValue := 0 }, { name := "serialVersionUID", type := .long, accessFlags := 26, slot := 0, constantValue := 0 }, { name := "COMPACT_STRINGS", type := .boolean, accessFlags := 24, slot := 1, constantValue := 0 }, { name := "serialPersistentFields", type := (.array (.object "java/io/ObjectStreamField")), accessFlags := 26, slot := 2, constantValue := 0 }, { name := "REPL", type := .char, accessFlags := 26, slot := 3, constantValue := 0 }, { name := "CASE_INSENSITIVE_ORDER", type := (.object "java/util/Comparator"), accessFlags := 25, slot := 4, constantValue := 0 }, { name := "LATIN1", type := .byte, accessFlags := 24, slot := 5, constantValue := 0 }, { name := "UTF16", type := .byte, accessFlags := 24, slot := 6, constantValue := 0 }]
  methods := #[k7m0, k7m1, k7m2, k7m3, k7m4, k7m5, k7m6, k7m7, k7m8]
  instanceTypes := #[(.array .byte), .byte, .int, .boolean]
  staticTypes := #[.long, .boolean, (.array (.object "java/io/ObjectStreamField")), .char, (.object "java/util/Comparator"), .byte, .byte]
  resolved := Array.replicate 1451 none
  statics := some 0 }

def pool8 : Array CpInfo := pool [(2, .class_ 4), (1, u "java/lang/Object"), (0, u "<init>"), (0, u "()V"), (0, .methodref 8 9), (0, .class_ 10), (0, .nameAndType 11 12), (0, u "java/lang/String"), (0, u "isEmpty"), (0, u "()Z"), (0, .methodref 8 14), (0, .nameAndType 15 16), (0, u "length"), (0, u "()I"), (0, .class_ 18), (0, u "com/example/delay_buckets/delaybuckets/Names"), (0, .methodref 8 20), (0, .nameAndType 21 22), (0, u "charAt"), (0, u "(I)C"), (0, .methodref 17 24), (0, .nameAndType 25 26), (0, u "isAllowed"), (0, u "(C)Z"), (0, u "MAX_LENGTH"), (0, u "I"), (4, u "isValid"), (0, u "(Ljava/lang/String;)Z")] 3

def k8m0 : Method := { name := "<init>", desc := "()V", sig := { parameters := [], returnType := none }, accessFlags := 2, code := none }
def k8c1 : Code := { maxStack := 2, maxLocals := 2, code := prog_8_method_2_code, exceptionTable := #[], attributes := #[] }
def k8m1 : Method := { name := "isValid", desc := "(Ljava/lang/String;)Z", sig := { parameters := [(.object "java/lang/String")], returnType := some .boolean }, accessFlags := 8, code := some k8c1 }
def k8c2 : Code := { maxStack := 2, maxLocals := 1, code := prog_8_method_3_code, exceptionTable := #[], attributes := #[] }
def k8m2 : Method := { name := "isAllowed", desc := "(C)Z", sig := { parameters := [.char], returnType := some .boolean }, accessFlags := 10, code := some k8c2 }
/-- com/example/delay_buckets/delaybuckets/Names -/
def k8 : Class := { plain "com/example/delay_buckets/delaybuckets/Names" (some 0) with
  accessFlags := 48
  interfaces := #[]
  cf := some (fileOf pool8 17 #[] #[{ accessFlags := 2, nameIndex := 5, descriptorIndex := 6, attributes := #[] }, { accessFlags := 8, nameIndex := 33, descriptorIndex := 34, attributes := #[] }, { accessFlags := 10, nameIndex := 25, descriptorIndex := 26, attributes := #[] }] 48 2 #[] #[{ accessFlags := 24, nameIndex := 27, descriptorIndex := 28, attributes := #[] }])
  fields := #[{ name := "MAX_LENGTH", type := .int, accessFlags := 24, slot := 0, constantValue := 0 }]
  methods := #[k8m0, k8m1, k8m2]
  instanceTypes := #[]
  staticTypes := #[.int]
  resolved := Array.replicate 38 none
  statics := none }

def pool9 : Array CpInfo := pool [(1, .class_ 2), (0, u "java/lang/String"), (1, .class_ 6), (1, u "java/lang/Object"), (0, u "<init>"), (0, u "()V"), (0, .methodref 1 10), (0, .nameAndType 11 12), (0, u "checkIndex"), (0, u "(II)V"), (1, .class_ 16), (1, u "java/lang/StringLatin1"), (36, u "([BI)C"), (67, u "$assertionsDisabled"), (0, u "Z"), (98, .class_ 223), (1, u "java/lang/StringLatin1$LinesSpliterator"), (28, u "charAt"), (137, .class_ 391), (0, u "java/lang/StringLatin1$CharsSpliterator")] 3

def k9m0 : Method := { name := "<init>", desc := "()V", sig := { parameters := [], returnType := none }, accessFlags := 0, code := none }
def k9c1 : Code := { maxStack := 2, maxLocals := 2, code := jdk_43_method_2_code, exceptionTable := #[], attributes := #[] }
def k9m1 : Method := { name := "charAt", desc := "([BI)C", sig := { parameters := [(.array .byte), .int], returnType := some .char }, accessFlags := 9, code := some k9c1 }
/-- java/lang/StringLatin1 -/
def k9 : Class := { plain "java/lang/StringLatin1" (some 0) with
  accessFlags := 48
  interfaces := #[]
  cf := some (fileOf pool9 14 #[.nestMembers #[390, 221]] #[{ accessFlags := 0, nameIndex := 7, descriptorIndex := 8, attributes := #[] }, { accessFlags := 9, nameIndex := 252, descriptorIndex := 53, attributes := #[] }] 48 4 #[] #[{ accessFlags := 4120, nameIndex := 121, descriptorIndex := 122, attributes := #[] }])
  fields := #[{ name := "$assertionsDisabled", type := .boolean, accessFlags := 4120, slot := 0, constantValue := 0 }]
  methods := #[k9m0, k9m1]
  instanceTypes := #[]
  staticTypes := #[.boolean]
  resolved := Array.replicate 395 none
  statics := none }

def pool10 : Array CpInfo := pool [(2, .class_ 4), (1, u "java/lang/Object"), (0, u "<init>"), (0, u "()V"), (17, .class_ 26), (1, u "jdk/internal/util/Preconditions"), (6, u "checkIndex"), (21, .class_ 56), (0, u "jdk/internal/util/Preconditions$4"), (57, .class_ 115), (0, u "jdk/internal/util/Preconditions$1"), (7, u "SIOOBE_FORMATTER"), (0, u "Ljava/util/function/BiFunction;"), (0, .class_ 126), (0, u "jdk/internal/util/Preconditions$2"), (3, u "AIOOBE_FORMATTER"), (0, .class_ 132), (0, u "jdk/internal/util/Preconditions$3"), (3, u "IOOBE_FORMATTER"), (41, u "(IILjava/util/function/BiFunction;)I")] 15

def k10m0 : Method := { name := "<init>", desc := "()V", sig := { parameters := [], returnType := none }, accessFlags := 1, code := none }
def k10c1 : Code := { maxStack := 3, maxLocals := 3, code := jdk_41_method_11_code, exceptionTable := #[], attributes := #[] }
def k10m1 : Method := { name := "checkIndex", desc := "(IILjava/util/function/BiFunction;)I", sig := { parameters := [.int, .int, (.object "java/util/function/BiFunction")], returnType := some .int }, accessFlags := 9, code := some k10c1 }
/-- jdk/internal/util/Preconditions -/
def k10 : Class := { plain "jdk/internal/util/Preconditions" (some 0) with
  accessFlags := 33
  interfaces := #[]
  cf := some (fileOf pool10 24 #[.nestMembers #[55, 131, 125, 114]] #[{ accessFlags := 1, nameIndex := 5, descriptorIndex := 6, attributes := #[] }, { accessFlags := 9, nameIndex := 33, descriptorIndex := 178, attributes := #[] }] 33 2 #[] #[{ accessFlags := 25, nameIndex := 123, descriptorIndex := 124, attributes := #[] }, { accessFlags := 25, nameIndex := 130, descriptorIndex := 124, attributes := #[] }, { accessFlags := 25, nameIndex := 136, descriptorIndex := 124, attributes := #[] }])
  fields := #[{ name := "SIOOBE_FORMATTER", type := (.object "java/util/function/BiFunction"), accessFlags := 25, slot := 0, constantValue := 0 }, { name := "AIOOBE_FORMATTER", type := (.object "java/util/function/BiFunction"), accessFlags := 25, slot := 1, constantValue := 0 }, { name := "IOOBE_FORMATTER", type := (.object "java/util/function/BiFunction"), accessFlags := 25, slot := 2, constantValue := 0 }]
  methods := #[k10m0, k10m1]
  instanceTypes := #[]
  staticTypes := #[(.object "java/util/function/BiFunction"), (.object "java/util/function/BiFunction"), (.object "java/util/function/BiFunction")]
  resolved := Array.replicate 194 none
  statics := some 1 }

def pool11 : Array CpInfo := pool [(3, .class_ 4), (0, u "java/lang/String"), (1, .class_ 8), (1, u "java/lang/Object"), (0, u "<init>"), (0, u "()V"), (0, .methodref 12 13), (0, .class_ 14), (0, .nameAndType 15 16), (0, u "java/lang/StringUTF16"), (0, u "newBytesLength"), (0, u "(I)I"), (3, .integer 1073741823), (23, .fieldref 12 45), (0, .nameAndType 46 47), (0, u "$assertionsDisabled"), (0, u "Z"), (0, .methodref 12 49), (0, .nameAndType 50 51), (0, u "length"), (0, u "([B)I"), (7, .fieldref 12 60), (0, .nameAndType 61 62), (0, u "HI_BYTE_SHIFT"), (0, u "I"), (0, .fieldref 12 64), (0, .nameAndType 65 62), (0, u "LO_BYTE_SHIFT"), (1, .methodref 12 68), (0, .nameAndType 69 70), (0, u "checkIndex"), (0, u "(I[B)V"), (0, .methodref 12 72), (0, .nameAndType 73 74), (0, u "getChar"), (0, u "([BI)C"), (32, .methodref 12 108), (0, .nameAndType 109 110), (0, u "newBytesFor"), (0, u "(I)[B"), (0, .methodref 12 112), (0, .nameAndType 113 114), (0, u "putChar"), (0, u "([BII)V"), (0, .methodref 12 116), (0, .nameAndType 117 118), (0, u "compress"), (0, u "([CI[BII)I"), (0, .methodref 12 120), (0, .nameAndType 121 122), (0, u "toBytes"), (0, u "([CII)[B"), (138, u "coderFromArrayLen"), (0, u "([BI)B"), (106, .class_ 371), (1, u "java/lang/StringUTF16$LinesSpliterator"), (20, u "charAt"), (21, .methodref 3 415), (0, .nameAndType 69 416), (0, u "(II)V"), (13, u "MAX_LENGTH"), (196, .class_ 628), (0, u "java/lang/StringUTF16$CodePointsSpliterator"), (0, .class_ 630), (0, u "java/lang/StringUTF16$CharsSpliterator")] 4

def k11m0 : Method := { name := "<init>", desc := "()V", sig := { parameters := [], returnType := none }, accessFlags := 0, code := none }
def k11c1 : Code := { maxStack := 1, maxLocals := 1, code := jdk_52_method_2_code, exceptionTable := #[], attributes := #[] }
def k11m1 : Method := { name := "newBytesFor", desc := "(I)[B", sig := { parameters := [.int], returnType := some (.array .byte) }, accessFlags := 9, code := some k11c1 }
def k11c2 : Code := { maxStack := 4, maxLocals := 1, code := jdk_52_method_3_code, exceptionTable := #[], attributes := #[] }
def k11m2 : Method := { name := "newBytesLength", desc := "(I)I", sig := { parameters := [.int], returnType := some .int }, accessFlags := 9, code := some k11c2 }
def k11c3 : Code := { maxStack := 4, maxLocals := 3, code := jdk_52_method_4_code, exceptionTable := #[], attributes := #[] }
def k11m3 : Method := { name := "putChar", desc := "([BII)V", sig := { parameters := [(.array .byte), .int, .int], returnType := none }, accessFlags := 8, code := some k11c3 }
def k11c4 : Code := { maxStack := 3, maxLocals := 2, code := jdk_52_method_5_code, exceptionTable := #[], attributes := #[] }
def k11m4 : Method := { name := "getChar", desc := "([BI)C", sig := { parameters := [(.array .byte), .int], returnType := some .char }, accessFlags := 8, code := some k11c4 }
def k11c5 : Code := { maxStack := 2, maxLocals := 1, code := jdk_52_method_6_code, exceptionTable := #[], attributes := #[] }
def k11m5 : Method := { name := "length", desc := "([B)I", sig := { parameters := [(.array .byte)], returnType := some .int }, accessFlags := 9, code := some k11c5 }
def k11c6 : Code := { maxStack := 4, maxLocals := 5, code := jdk_52_method_14_code, exceptionTable := #[], attributes := #[] }
def k11m6 : Method := { name := "toBytes", desc := "([CII)[B", sig := { parameters := [(.array .char), .int, .int], returnType := some (.array .byte) }, accessFlags := 9, code := some k11c6 }
def k11c7 : Code := { maxStack := 2, maxLocals := 2, code := jdk_52_method_15_code, exceptionTable := #[], attributes := #[] }
def k11m7 : Method := { name := "coderFromArrayLen", desc := "([BI)B", sig := { parameters := [(.array .byte), .int], returnType := some .byte }, accessFlags := 8, code := some k11c7 }
def k11c8 : Code := { maxStack := 5, maxLocals := 6, code := jdk_52_method_16_code, exceptionTable := #[], attributes := #[] }
def k11m8 : Method := { name := "compress", desc := "([CII)[B", sig := { parameters := [(.array .char), .int, .int], returnType := some (.array .byte) }, accessFlags := 9, code := some k11c8 }
def k11c9 : Code := { maxStack := 3, maxLocals := 7, code := jdk_52_method_21_code, exceptionTable := #[], attributes := #[] }
def k11m9 : Method := { name := "compress", desc := "([CI[BII)I", sig := { parameters := [(.array .char), .int, (.array .byte), .int, .int], returnType := some .int }, accessFlags := 9, code := some k11c9 }
def k11c10 : Code := { maxStack := 2, maxLocals := 2, code := jdk_52_method_83_code, exceptionTable := #[], attributes := #[] }
def k11m10 : Method := { name := "charAt", desc := "([BI)C", sig := { parameters := [(.array .byte), .int], returnType := some .char }, accessFlags := 9, code := some k11c10 }
def k11c11 : Code := { maxStack := 2, maxLocals := 2, code := jdk_52_method_91_code, exceptionTable := #[], attributes := #[] }
def k11m11 : Method := { name := "checkIndex", desc := "(I[B)V", sig := { parameters := [.int, (.array .byte)], returnType := none }, accessFlags := 9, code := some k11c11 }
/-- java/lang/StringUTF16 -/
def k11 : Class := { plain "java/lang/StringUTF16" (some 0) with
  accessFlags := 48
  interfaces := #[]
  cf := some (fileOf pool11 12 #[.nestMembers #[627, 629, 369]] #[{ accessFlags := 0, nameIndex := 9, descriptorIndex := 10, attributes := #[] }, { accessFlags := 9, nameIndex := 109, descriptorIndex := 110, attributes := #[] }, { accessFlags := 9, nameIndex := 15, descriptorIndex := 16, attributes := #[] }, { accessFlags := 8, nameIndex := 113, descriptorIndex := 114, attributes := #[] }, { accessFlags := 8, nameIndex := 73, descriptorIndex := 74, attributes := #[] }, { accessFlags := 9, nameIndex := 50, descriptorIndex := 51, attributes := #[] }, { accessFlags := 9, nameIndex := 121, descriptorIndex := 122, attributes := #[] }, { accessFlags := 8, nameIndex := 261, descriptorIndex := 262, attributes := #[] }, { accessFlags := 9, nameIndex := 117, descriptorIndex := 122, attributes := #[] }, { accessFlags := 9, nameIndex := 117, descriptorIndex := 118, attributes := #[] }, { accessFlags := 9, nameIndex := 392, descriptorIndex := 74, attributes := #[] }, { accessFlags := 9, nameIndex := 69, descriptorIndex := 70, attributes := #[] }] 48 6 #[] #[{ accessFlags := 26, nameIndex := 61, descriptorIndex := 62, attributes := #[] }, { accessFlags := 26, nameIndex := 65, descriptorIndex := 62, attributes := #[] }, { accessFlags := 24, nameIndex := 430, descriptorIndex := 62, attributes := #[] }, { accessFlags := 4120, nameIndex := 46, descriptorIndex := 47, attributes := #[] }])
  fields := #[{ name := "HI_BYTE_SHIFT", type := .int, accessFlags := 26, slot := 0, constantValue := 0 }, { name := "LO_BYTE_SHIFT", type := .int, accessFlags := 26, slot := 1, constantValue := 0 }, { name := "MAX_LENGTH", type := .int, accessFlags := 24, slot := 2, constantValue := 0 }, { name := "$assertionsDisabled", type := .boolean, accessFlags := 4120, slot := 3, constantValue := 0 }]
  methods := #[k11m0, k11m1, k11m2, k11m3, k11m4, k11m5, k11m6, k11m7, k11m8, k11m9, k11m10, k11m11]
  instanceTypes := #[]
  staticTypes := #[.int, .int, .int, .boolean]
  resolved := Array.replicate 635 none
  statics := some 2 }

def pool12 : Array CpInfo := pool [(9, u "<init>"), (6, .class_ 18), (1, u "java/lang/Object"), (0, u "()V"), (1, .class_ 23), (1, u "jdk/internal/util/ArraysSupport"), (0, u "LOG2_ARRAY_LONG_INDEX_SCALE"), (0, u "I"), (2, u "U"), (0, u "Ljdk/internal/misc/Unsafe;"), (8, u "BIG_ENDIAN"), (0, u "Z"), (8, u "LOG2_BYTE_BIT_SIZE"), (4, u "LOG2_ARRAY_INT_INDEX_SCALE"), (54, u "JLA"), (0, u "Ljdk/internal/access/JavaLangAccess;"), (11, u "LOG2_ARRAY_BOOLEAN_INDEX_SCALE"), (9, u "LOG2_ARRAY_BYTE_INDEX_SCALE"), (5, u "LOG2_ARRAY_CHAR_INDEX_SCALE"), (5, u "LOG2_ARRAY_SHORT_INDEX_SCALE"), (18, u "LOG2_ARRAY_FLOAT_INDEX_SCALE"), (24, u "LOG2_ARRAY_DOUBLE_INDEX_SCALE"), (89, u "T_BOOLEAN"), (2, u "T_CHAR"), (1, u "T_FLOAT"), (1, u "T_DOUBLE"), (1, u "T_BYTE"), (1, u "T_SHORT"), (1, u "T_INT"), (1, u "T_LONG"), (1, u "SOFT_MAX_ARRAY_LENGTH")] 83

def k12m0 : Method := { name := "<init>", desc := "()V", sig := { parameters := [], returnType := none }, accessFlags := 2, code := none }
/-- jdk/internal/util/ArraysSupport -/
def k12 : Class := { plain "jdk/internal/util/ArraysSupport" (some 0) with
  accessFlags := 33
  interfaces := #[]
  cf := some (fileOf pool12 21 #[] #[{ accessFlags := 2, nameIndex := 9, descriptorIndex := 19, attributes := #[] }] 33 16 #[] #[{ accessFlags := 24, nameIndex := 28, descriptorIndex := 29, attributes := #[] }, { accessFlags := 26, nameIndex := 38, descriptorIndex := 39, attributes := #[] }, { accessFlags := 25, nameIndex := 121, descriptorIndex := 25, attributes := #[] }, { accessFlags := 25, nameIndex := 131, descriptorIndex := 25, attributes := #[] }, { accessFlags := 25, nameIndex := 137, descriptorIndex := 25, attributes := #[] }, { accessFlags := 25, nameIndex := 143, descriptorIndex := 25, attributes := #[] }, { accessFlags := 25, nameIndex := 53, descriptorIndex := 25, attributes := #[] }, { accessFlags := 25, nameIndex := 24, descriptorIndex := 25, attributes := #[] }, { accessFlags := 25, nameIndex := 162, descriptorIndex := 25, attributes := #[] }, { accessFlags := 25, nameIndex := 187, descriptorIndex := 25, attributes := #[] }, { accessFlags := 26, nameIndex := 48, descriptorIndex := 25, attributes := #[] }, { accessFlags := 25, nameIndex := 277, descriptorIndex := 25, attributes := #[] }, { accessFlags := 25, nameIndex := 280, descriptorIndex := 25, attributes := #[] }, { accessFlags := 25, nameIndex := 282, descriptorIndex := 25, attributes := #[] }, { accessFlags := 25, nameIndex := 284, descriptorIndex := 25, attributes := #[] }, { accessFlags := 25, nameIndex := 286, descriptorIndex := 25, attributes := #[] }, { accessFlags := 25, nameIndex := 288, descriptorIndex := 25, attributes := #[] }, { accessFlags := 25, nameIndex := 290, descriptorIndex := 25, attributes := #[] }, { accessFlags := 25, nameIndex := 292, descriptorIndex := 25, attributes := #[] }, { accessFlags := 26, nameIndex := 108, descriptorIndex := 109, attributes := #[] }, { accessFlags := 25, nameIndex := 294, descriptorIndex := 25, attributes := #[] }])
  fields := #[{ name := "U", type := (.object "jdk/internal/misc/Unsafe"), accessFlags := 24, slot := 0, constantValue := 0 }, { name := "BIG_ENDIAN", type := .boolean, accessFlags := 26, slot := 1, constantValue := 0 }, { name := "LOG2_ARRAY_BOOLEAN_INDEX_SCALE", type := .int, accessFlags := 25, slot := 2, constantValue := 0 }, { name := "LOG2_ARRAY_BYTE_INDEX_SCALE", type := .int, accessFlags := 25, slot := 3, constantValue := 0 }, { name := "LOG2_ARRAY_CHAR_INDEX_SCALE", type := .int, accessFlags := 25, slot := 4, constantValue := 0 }, { name := "LOG2_ARRAY_SHORT_INDEX_SCALE", type := .int, accessFlags := 25, slot := 5, constantValue := 0 }, { name := "LOG2_ARRAY_INT_INDEX_SCALE", type := .int, accessFlags := 25, slot := 6, constantValue := 0 }, { name := "LOG2_ARRAY_LONG_INDEX_SCALE", type := .int, accessFlags := 25, slot := 7, constantValue := 0 }, { name := "LOG2_ARRAY_FLOAT_INDEX_SCALE", type := .int, accessFlags := 25, slot := 8, constantValue := 0 }, { name := "LOG2_ARRAY_DOUBLE_INDEX_SCALE", type := .int, accessFlags := 25, slot := 9, constantValue := 0 }, { name := "LOG2_BYTE_BIT_SIZE", type := .int, accessFlags := 26, slot := 10, constantValue := 0 }, { name := "T_BOOLEAN", type := .int, accessFlags := 25, slot := 11, constantValue := 0 }, { name := "T_CHAR", type := .int, accessFlags := 25, slot := 12, constantValue := 0 }, { name := "T_FLOAT", type := .int, accessFlags := 25, slot := 13, constantValue := 0 }, { name := "T_DOUBLE", type := .int, accessFlags := 25, slot := 14, constantValue := 0 }, { name := "T_BYTE", type := .int, accessFlags := 25, slot := 15, constantValue := 0 }, { name := "T_SHORT", type := .int, accessFlags := 25, slot := 16, constantValue := 0 }, { name := "T_INT", type := .int, accessFlags := 25, slot := 17, constantValue := 0 }, { name := "T_LONG", type := .int, accessFlags := 25, slot := 18, constantValue := 0 }, { name := "JLA", type := (.object "jdk/internal/access/JavaLangAccess"), accessFlags := 26, slot := 19, constantValue := 0 }, { name := "SOFT_MAX_ARRAY_LENGTH", type := .int, accessFlags := 25, slot := 20, constantValue := 0 }]
  methods := #[k12m0]
  instanceTypes := #[]
  staticTypes := #[(.object "jdk/internal/misc/Unsafe"), .boolean, .int, .int, .int, .int, .int, .int, .int, .int, .int, .int, .int, .int, .int, .int, .int, .int, .int, (.object "jdk/internal/access/JavaLangAccess"), .int]
  resolved := Array.replicate 378 none
  statics := none }

def pool13 : Array CpInfo := pool [(1, u "java/lang/Cloneable"), (0, .class_ 1), (0, u "java/lang/Object"), (0, .class_ 3)] 3

/-- java/lang/Cloneable -/
def k13 : Class := { plain "java/lang/Cloneable" (some 0) with
  accessFlags := 1537
  interfaces := #[]
  cf := some (fileOf pool13 2 #[] #[] 1537 4 #[] #[])
  fields := #[]
  methods := #[]
  instanceTypes := #[]
  staticTypes := #[]
  resolved := Array.replicate 8 none
  statics := none }

/-- the primitive byte -/
def k14 : Class := { plain "byte" none with kind := .primitive 'B', accessFlags := 0x411 }
/-- [B -/
def k15 : Class := { plain "[B" (some 0) with kind := .array 14 .byte, interfaces := #[13, 2], accessFlags := 1041 }

/-- the primitive char -/
def k16 : Class := { plain "char" none with kind := .primitive 'C', accessFlags := 0x411 }
/-- [C -/
def k17 : Class := { plain "[C" (some 0) with kind := .array 16 .char, interfaces := #[13, 2], accessFlags := 1041 }

/-- the primitive int -/
def k18 : Class := { plain "int" none with kind := .primitive 'I', accessFlags := 0x411 }
/-- [I -/
def k19 : Class := { plain "[I" (some 0) with kind := .array 18 .int, interfaces := #[13, 2], accessFlags := 1041 }

def heap : Heap := #[{ cls := 7, slots := #[.long 0, .int 1, .null, .int 0, .null, .int 0, .int 0], vm := .statics 7 },
  { cls := 10, slots := #[.null, .null, .null], vm := .statics 10 },
  { cls := 11, slots := #[.int 0, .int 8, .int 0, .int 1], vm := .statics 11 }]
def classes : Array Class := #[k0, k1, k2, k3, k4, k5, k6, k7, k8, k9, k10, k11, k12, k13, k14, k15, k16, k17, k18, k19]
def interned : List (Array UInt16 × Addr) := []
def slotsUsed : Nat := 14
def theMethod : MethodId := ⟨1, 1⟩
def args0 : Array Value := #[.int 5, .long 1, .long 1, .long 1]
def aboutOver (below : List Frame) : State where
  vm := { classes := classes, interned := interned.toArray }
  heap := heap
  slotsUsed := slotsUsed
  threads := #[{ frames := .invoking theMethod args0 :: below }]
def below0 : List Frame := [.native { method := ⟨0, 0⟩, args := #[] }]
def about1 : State := aboutOver below0
def p0 : Program := .bare "" "" ""
def e0 : Env := launch0.env 0 0 0
theorem w_frames : about1.frames = Frame.invoking theMethod args0 :: below0 := rfl
set_option maxRecDepth 65536 in
theorem w_args : argsFit about1.vm theMethod args0 = true := by decide +kernel
set_option maxRecDepth 65536 in
theorem w_heap : heapFits about1 = true := by decide +kernel
set_option maxRecDepth 65536 in
theorem w_runnable : about1.curStatus? = some .runnable := by decide +kernel
set_option maxRecDepth 65536 in
theorem w_alone : about1.alone = true := by decide +kernel
set_option maxRecDepth 65536 in
theorem w_named : about1.methodNamed? x = some theMethod := by decide +kernel
set_option maxRecDepth 65536 in
theorem w_hears : about1.hears theMethod below0 = true := by decide +kernel
set_option maxRecDepth 65536 in
theorem w_ripe : about1.ripe theMethod args0 below0 = true := by decide +kernel
theorem w_running : about1.status = .running := rfl
set_option maxRecDepth 65536 in
theorem w_room : about1.hasRoom e0.platform room_1 = true :=
  launch0.hasRoom_least _ room_1 (by decide +kernel) (by decide +kernel) (by decide +kernel) (by decide +kernel) (by decide +kernel) (by decide +kernel)
theorem allAtoms_all (ts : List Jvm.Cond) (a : Array Jvm.Value) (st : Jvm.State) : (allAtoms ts).before a st = ts.all (fun c => c.before a st) := by
  induction ts with
  | nil => rfl
  | cons c t ih =>
    show (Jvm.Cond.and c (allAtoms t)).before a st = _
    rw [Jvm.Cond.before_and, ih, List.all_cons]
def words1 : List Jvm.Cond := Jvm.Cond.code x code maxLocals ret :: tables_1
/-- a 'code' word, met by the world's own term for the bytes: nothing is compared byte by byte -/
theorem code_word {y : MethodName} {bytes : ByteArray} {mx : Nat} {rt : Option FieldType} {a : Array Value} {s : State} {m : MethodId} {meth : Method} {c : Code} (h1 : s.methodNamed? y = some m) (h2 : s.vm.method? m = some meth) (h3 : meth.code = some c) (h4 : c.code = bytes)
    (h5 : (c.maxLocals == mx && c.exceptionTable.isEmpty && decide (c.maxStack ≤ mostOperands) && decide (meth.sig.returnType = rt) && !meth.locks && decide (parseMethodDescriptor y.desc = some meth.sig)) = true) : (Jvm.Cond.code y bytes mx rt).before a s = true := by
  simp only [Bool.and_eq_true, beq_iff_eq, Bool.not_eq_true', decide_eq_true_eq] at h5
  obtain ⟨⟨⟨⟨⟨g1, g2⟩, g3⟩, g4⟩, g5⟩, g6⟩ := h5
  simp [Cond.before, Cond.holds, Cond.value, h1, h2, h3, h4, g1, g2, g3, g4, g5, g6]
def isCode : Jvm.Cond → Bool
  | .code _ _ _ _ => true
  | _ => false
theorem all_split {L : List Jvm.Cond} {P : Jvm.Cond → Bool} (h1 : L.all (fun c => isCode c || P c) = true) (h2 : ∀ c ∈ L.filter isCode, P c = true) : L.all P = true := by
  refine List.all_eq_true.mpr fun c hc => ?_
  have h := List.all_eq_true.mp h1 c hc
  rcases Bool.eq_false_or_eq_true (isCode c) with hi | hi
  · exact h2 c (List.mem_filter.mpr ⟨hc, hi⟩)
  · simpa [hi] using h
set_option maxRecDepth 65536 in
theorem w_c0 : (Jvm.Cond.code x code maxLocals ret).before args0 about1 = true := code_word (m := ⟨1, 1⟩) (meth := k1m1) (c := k1c1) (by decide +kernel) rfl rfl rfl (by decide +kernel)
set_option maxRecDepth 65536 in
theorem w_c1 : (Jvm.Cond.code ({ cls := "java/lang/String", name := "<init>", desc := "([C)V" } : Jvm.MethodName) jdk_42_method_3_code (2 : Nat) (Option.none : Option Jvm.ClassFile.FieldType)).before args0 about1 = true := code_word (m := ⟨7, 1⟩) (meth := k7m1) (c := k7c1) (by decide +kernel) rfl rfl rfl (by decide +kernel)
set_option maxRecDepth 65536 in
theorem w_c2 : (Jvm.Cond.code ({ cls := "java/lang/String", name := "<init>", desc := "([CIILjava/lang/Void;)V" } : Jvm.MethodName) jdk_42_method_149_code (6 : Nat) (Option.none : Option Jvm.ClassFile.FieldType)).before args0 about1 = true := code_word (m := ⟨7, 5⟩) (meth := k7m5) (c := k7c5) (by decide +kernel) rfl rfl rfl (by decide +kernel)
set_option maxRecDepth 65536 in
theorem w_c3 : (Jvm.Cond.code ({ cls := "java/lang/Object", name := "<init>", desc := "()V" } : Jvm.MethodName) object_method_1_code (1 : Nat) (Option.none : Option Jvm.ClassFile.FieldType)).before args0 about1 = true := code_word (m := ⟨0, 0⟩) (meth := k0m0) (c := k0c0) (by decide +kernel) rfl rfl rfl (by decide +kernel)
set_option maxRecDepth 65536 in
theorem w_c4 : (Jvm.Cond.code ({ cls := "com/example/delay_buckets/delaybuckets/Names", name := "isValid", desc := "(Ljava/lang/String;)Z" } : Jvm.MethodName) prog_8_method_2_code (2 : Nat) (Option.some Jvm.ClassFile.FieldType.boolean)).before args0 about1 = true := code_word (m := ⟨8, 1⟩) (meth := k8m1) (c := k8c1) (by decide +kernel) rfl rfl rfl (by decide +kernel)
set_option maxRecDepth 65536 in
theorem w_c5 : (Jvm.Cond.code ({ cls := "java/lang/String", name := "isEmpty", desc := "()Z" } : Jvm.MethodName) jdk_42_method_55_code (1 : Nat) (Option.some Jvm.ClassFile.FieldType.boolean)).before args0 about1 = true := code_word (m := ⟨7, 3⟩) (meth := k7m3) (c := k7c3) (by decide +kernel) rfl rfl rfl (by decide +kernel)
set_option maxRecDepth 65536 in
theorem w_c6 : (Jvm.Cond.code ({ cls := "java/lang/String", name := "length", desc := "()I" } : Jvm.MethodName) jdk_42_method_54_code (1 : Nat) (Option.some Jvm.ClassFile.FieldType.int)).before args0 about1 = true := code_word (m := ⟨7, 2⟩) (meth := k7m2) (c := k7c2) (by decide +kernel) rfl rfl rfl (by decide +kernel)
set_option maxRecDepth 65536 in
theorem w_c7 : (Jvm.Cond.code ({ cls := "java/lang/String", name := "coder", desc := "()B" } : Jvm.MethodName) jdk_42_method_152_code (1 : Nat) (Option.some Jvm.ClassFile.FieldType.byte)).before args0 about1 = true := code_word (m := ⟨7, 6⟩) (meth := k7m6) (c := k7c6) (by decide +kernel) rfl rfl rfl (by decide +kernel)
set_option maxRecDepth 65536 in
theorem w_c8 : (Jvm.Cond.code ({ cls := "java/lang/String", name := "charAt", desc := "(I)C" } : Jvm.MethodName) jdk_42_method_56_code (2 : Nat) (Option.some Jvm.ClassFile.FieldType.char)).before args0 about1 = true := code_word (m := ⟨7, 4⟩) (meth := k7m4) (c := k7c4) (by decide +kernel) rfl rfl rfl (by decide +kernel)
set_option maxRecDepth 65536 in
theorem w_c9 : (Jvm.Cond.code ({ cls := "java/lang/String", name := "isLatin1", desc := "()Z" } : Jvm.MethodName) jdk_42_method_154_code (1 : Nat) (Option.some Jvm.ClassFile.FieldType.boolean)).before args0 about1 = true := code_word (m := ⟨7, 7⟩) (meth := k7m7) (c := k7c7) (by decide +kernel) rfl rfl rfl (by decide +kernel)
set_option maxRecDepth 65536 in
theorem w_c10 : (Jvm.Cond.code ({ cls := "java/lang/StringLatin1", name := "charAt", desc := "([BI)C" } : Jvm.MethodName) jdk_43_method_2_code (2 : Nat) (Option.some Jvm.ClassFile.FieldType.char)).before args0 about1 = true := code_word (m := ⟨9, 1⟩) (meth := k9m1) (c := k9c1) (by decide +kernel) rfl rfl rfl (by decide +kernel)
set_option maxRecDepth 65536 in
theorem w_c11 : (Jvm.Cond.code ({ cls := "java/lang/String", name := "checkIndex", desc := "(II)V" } : Jvm.MethodName) jdk_42_method_155_code (2 : Nat) (Option.none : Option Jvm.ClassFile.FieldType)).before args0 about1 = true := code_word (m := ⟨7, 8⟩) (meth := k7m8) (c := k7c8) (by decide +kernel) rfl rfl rfl (by decide +kernel)
set_option maxRecDepth 65536 in
theorem w_c12 : (Jvm.Cond.code ({ cls := "jdk/internal/util/Preconditions", name := "checkIndex", desc := "(IILjava/util/function/BiFunction;)I" } : Jvm.MethodName) jdk_41_method_11_code (3 : Nat) (Option.some Jvm.ClassFile.FieldType.int)).before args0 about1 = true := code_word (m := ⟨10, 1⟩) (meth := k10m1) (c := k10c1) (by decide +kernel) rfl rfl rfl (by decide +kernel)
set_option maxRecDepth 65536 in
theorem w_c13 : (Jvm.Cond.code ({ cls := "com/example/delay_buckets/delaybuckets/Names", name := "isAllowed", desc := "(C)Z" } : Jvm.MethodName) prog_8_method_3_code (1 : Nat) (Option.some Jvm.ClassFile.FieldType.boolean)).before args0 about1 = true := code_word (m := ⟨8, 2⟩) (meth := k8m2) (c := k8c2) (by decide +kernel) rfl rfl rfl (by decide +kernel)
set_option maxRecDepth 65536 in
theorem w_c14 : (Jvm.Cond.code ({ cls := "com/example/delay_buckets/delaybuckets/NamesIsValidPinLaw", name := "okAt", desc := "([CII)Z" } : Jvm.MethodName) method_3_code (3 : Nat) (Option.some Jvm.ClassFile.FieldType.boolean)).before args0 about1 = true := code_word (m := ⟨1, 2⟩) (meth := k1m2) (c := k1c2) (by decide +kernel) rfl rfl rfl (by decide +kernel)
set_option maxRecDepth 65536 in
theorem w_c15 : (Jvm.Cond.code ({ cls := "com/example/delay_buckets/delaybuckets/NamesIsValidPinLaw", name := "allowed", desc := "(C)Z" } : Jvm.MethodName) method_4_code (1 : Nat) (Option.some Jvm.ClassFile.FieldType.boolean)).before args0 about1 = true := code_word (m := ⟨1, 3⟩) (meth := k1m3) (c := k1c3) (by decide +kernel) rfl rfl rfl (by decide +kernel)
set_option maxRecDepth 65536 in
theorem w_c16 : (Jvm.Cond.code ({ cls := "java/lang/StringUTF16", name := "compress", desc := "([CII)[B" } : Jvm.MethodName) jdk_52_method_16_code (6 : Nat) (Option.some (Jvm.ClassFile.FieldType.array Jvm.ClassFile.FieldType.byte))).before args0 about1 = true := code_word (m := ⟨11, 8⟩) (meth := k11m8) (c := k11c8) (by decide +kernel) rfl rfl rfl (by decide +kernel)
set_option maxRecDepth 65536 in
theorem w_c17 : (Jvm.Cond.code ({ cls := "java/lang/StringUTF16", name := "compress", desc := "([CI[BII)I" } : Jvm.MethodName) jdk_52_method_21_code (7 : Nat) (Option.some Jvm.ClassFile.FieldType.int)).before args0 about1 = true := code_word (m := ⟨11, 9⟩) (meth := k11m9) (c := k11c9) (by decide +kernel) rfl rfl rfl (by decide +kernel)
set_option maxRecDepth 65536 in
theorem w_c18 : (Jvm.Cond.code ({ cls := "java/lang/StringUTF16", name := "coderFromArrayLen", desc := "([BI)B" } : Jvm.MethodName) jdk_52_method_15_code (2 : Nat) (Option.some Jvm.ClassFile.FieldType.byte)).before args0 about1 = true := code_word (m := ⟨11, 7⟩) (meth := k11m7) (c := k11c7) (by decide +kernel) rfl rfl rfl (by decide +kernel)
set_option maxRecDepth 65536 in
theorem w_c19 : (Jvm.Cond.code ({ cls := "java/lang/StringUTF16", name := "toBytes", desc := "([CII)[B" } : Jvm.MethodName) jdk_52_method_14_code (5 : Nat) (Option.some (Jvm.ClassFile.FieldType.array Jvm.ClassFile.FieldType.byte))).before args0 about1 = true := code_word (m := ⟨11, 6⟩) (meth := k11m6) (c := k11c6) (by decide +kernel) rfl rfl rfl (by decide +kernel)
set_option maxRecDepth 65536 in
theorem w_c20 : (Jvm.Cond.code ({ cls := "java/lang/StringUTF16", name := "newBytesFor", desc := "(I)[B" } : Jvm.MethodName) jdk_52_method_2_code (1 : Nat) (Option.some (Jvm.ClassFile.FieldType.array Jvm.ClassFile.FieldType.byte))).before args0 about1 = true := code_word (m := ⟨11, 1⟩) (meth := k11m1) (c := k11c1) (by decide +kernel) rfl rfl rfl (by decide +kernel)
set_option maxRecDepth 65536 in
theorem w_c21 : (Jvm.Cond.code ({ cls := "java/lang/StringUTF16", name := "newBytesLength", desc := "(I)I" } : Jvm.MethodName) jdk_52_method_3_code (1 : Nat) (Option.some Jvm.ClassFile.FieldType.int)).before args0 about1 = true := code_word (m := ⟨11, 2⟩) (meth := k11m2) (c := k11c2) (by decide +kernel) rfl rfl rfl (by decide +kernel)
set_option maxRecDepth 65536 in
theorem w_c22 : (Jvm.Cond.code ({ cls := "java/lang/StringUTF16", name := "putChar", desc := "([BII)V" } : Jvm.MethodName) jdk_52_method_4_code (3 : Nat) (Option.none : Option Jvm.ClassFile.FieldType)).before args0 about1 = true := code_word (m := ⟨11, 3⟩) (meth := k11m3) (c := k11c3) (by decide +kernel) rfl rfl rfl (by decide +kernel)
set_option maxRecDepth 65536 in
theorem w_c23 : (Jvm.Cond.code ({ cls := "java/lang/StringUTF16", name := "getChar", desc := "([BI)C" } : Jvm.MethodName) jdk_52_method_5_code (2 : Nat) (Option.some Jvm.ClassFile.FieldType.char)).before args0 about1 = true := code_word (m := ⟨11, 4⟩) (meth := k11m4) (c := k11c4) (by decide +kernel) rfl rfl rfl (by decide +kernel)
set_option maxRecDepth 65536 in
theorem w_c24 : (Jvm.Cond.code ({ cls := "java/lang/StringUTF16", name := "charAt", desc := "([BI)C" } : Jvm.MethodName) jdk_52_method_83_code (2 : Nat) (Option.some Jvm.ClassFile.FieldType.char)).before args0 about1 = true := code_word (m := ⟨11, 10⟩) (meth := k11m10) (c := k11c10) (by decide +kernel) rfl rfl rfl (by decide +kernel)
set_option maxRecDepth 65536 in
theorem w_c25 : (Jvm.Cond.code ({ cls := "java/lang/StringUTF16", name := "checkIndex", desc := "(I[B)V" } : Jvm.MethodName) jdk_52_method_91_code (2 : Nat) (Option.none : Option Jvm.ClassFile.FieldType)).before args0 about1 = true := code_word (m := ⟨11, 11⟩) (meth := k11m11) (c := k11c11) (by decide +kernel) rfl rfl rfl (by decide +kernel)
set_option maxRecDepth 65536 in
theorem w_c26 : (Jvm.Cond.code ({ cls := "java/lang/StringUTF16", name := "length", desc := "([B)I" } : Jvm.MethodName) jdk_52_method_6_code (1 : Nat) (Option.some Jvm.ClassFile.FieldType.int)).before args0 about1 = true := code_word (m := ⟨11, 5⟩) (meth := k11m5) (c := k11c5) (by decide +kernel) rfl rfl rfl (by decide +kernel)
def codes1 : List Jvm.Cond := [Jvm.Cond.code x code maxLocals ret, Jvm.Cond.code ({ cls := "java/lang/String", name := "<init>", desc := "([C)V" } : Jvm.MethodName) jdk_42_method_3_code (2 : Nat) (Option.none : Option Jvm.ClassFile.FieldType), Jvm.Cond.code ({ cls := "java/lang/String", name := "<init>", desc := "([CIILjava/lang/Void;)V" } : Jvm.MethodName) jdk_42_method_149_code (6 : Nat) (Option.none : Option Jvm.ClassFile.FieldType), Jvm.Cond.code ({ cls := "java/lang/Object", name := "<init>", desc := "()V" } : Jvm.MethodName) object_method_1_code (1 : Nat) (Option.none : Option Jvm.ClassFile.FieldType), Jvm.Cond.code ({ cls := "com/example/delay_buckets/delaybuckets/Names", name := "isValid", desc := "(Ljava/lang/String;)Z" } : Jvm.MethodName) prog_8_method_2_code (2 : Nat) (Option.some Jvm.ClassFile.FieldType.boolean), Jvm.Cond.code ({ cls := "java/lang/String", name := "isEmpty", desc := "()Z" } : Jvm.MethodName) jdk_42_method_55_code (1 : Nat) (Option.some Jvm.ClassFile.FieldType.boolean), Jvm.Cond.code ({ cls := "java/lang/String", name := "length", desc := "()I" } : Jvm.MethodName) jdk_42_method_54_code (1 : Nat) (Option.some Jvm.ClassFile.FieldType.int), Jvm.Cond.code ({ cls := "java/lang/String", name := "coder", desc := "()B" } : Jvm.MethodName) jdk_42_method_152_code (1 : Nat) (Option.some Jvm.ClassFile.FieldType.byte), Jvm.Cond.code ({ cls := "java/lang/String", name := "charAt", desc := "(I)C" } : Jvm.MethodName) jdk_42_method_56_code (2 : Nat) (Option.some Jvm.ClassFile.FieldType.char), Jvm.Cond.code ({ cls := "java/lang/String", name := "isLatin1", desc := "()Z" } : Jvm.MethodName) jdk_42_method_154_code (1 : Nat) (Option.some Jvm.ClassFile.FieldType.boolean), Jvm.Cond.code ({ cls := "java/lang/StringLatin1", name := "charAt", desc := "([BI)C" } : Jvm.MethodName) jdk_43_method_2_code (2 : Nat) (Option.some Jvm.ClassFile.FieldType.char), Jvm.Cond.code ({ cls := "java/lang/String", name := "checkIndex", desc := "(II)V" } : Jvm.MethodName) jdk_42_method_155_code (2 : Nat) (Option.none : Option Jvm.ClassFile.FieldType), Jvm.Cond.code ({ cls := "jdk/internal/util/Preconditions", name := "checkIndex", desc := "(IILjava/util/function/BiFunction;)I" } : Jvm.MethodName) jdk_41_method_11_code (3 : Nat) (Option.some Jvm.ClassFile.FieldType.int), Jvm.Cond.code ({ cls := "com/example/delay_buckets/delaybuckets/Names", name := "isAllowed", desc := "(C)Z" } : Jvm.MethodName) prog_8_method_3_code (1 : Nat) (Option.some Jvm.ClassFile.FieldType.boolean), Jvm.Cond.code ({ cls := "com/example/delay_buckets/delaybuckets/NamesIsValidPinLaw", name := "okAt", desc := "([CII)Z" } : Jvm.MethodName) method_3_code (3 : Nat) (Option.some Jvm.ClassFile.FieldType.boolean), Jvm.Cond.code ({ cls := "com/example/delay_buckets/delaybuckets/NamesIsValidPinLaw", name := "allowed", desc := "(C)Z" } : Jvm.MethodName) method_4_code (1 : Nat) (Option.some Jvm.ClassFile.FieldType.boolean), Jvm.Cond.code ({ cls := "java/lang/StringUTF16", name := "compress", desc := "([CII)[B" } : Jvm.MethodName) jdk_52_method_16_code (6 : Nat) (Option.some (Jvm.ClassFile.FieldType.array Jvm.ClassFile.FieldType.byte)), Jvm.Cond.code ({ cls := "java/lang/StringUTF16", name := "compress", desc := "([CI[BII)I" } : Jvm.MethodName) jdk_52_method_21_code (7 : Nat) (Option.some Jvm.ClassFile.FieldType.int), Jvm.Cond.code ({ cls := "java/lang/StringUTF16", name := "coderFromArrayLen", desc := "([BI)B" } : Jvm.MethodName) jdk_52_method_15_code (2 : Nat) (Option.some Jvm.ClassFile.FieldType.byte), Jvm.Cond.code ({ cls := "java/lang/StringUTF16", name := "toBytes", desc := "([CII)[B" } : Jvm.MethodName) jdk_52_method_14_code (5 : Nat) (Option.some (Jvm.ClassFile.FieldType.array Jvm.ClassFile.FieldType.byte)), Jvm.Cond.code ({ cls := "java/lang/StringUTF16", name := "newBytesFor", desc := "(I)[B" } : Jvm.MethodName) jdk_52_method_2_code (1 : Nat) (Option.some (Jvm.ClassFile.FieldType.array Jvm.ClassFile.FieldType.byte)), Jvm.Cond.code ({ cls := "java/lang/StringUTF16", name := "newBytesLength", desc := "(I)I" } : Jvm.MethodName) jdk_52_method_3_code (1 : Nat) (Option.some Jvm.ClassFile.FieldType.int), Jvm.Cond.code ({ cls := "java/lang/StringUTF16", name := "putChar", desc := "([BII)V" } : Jvm.MethodName) jdk_52_method_4_code (3 : Nat) (Option.none : Option Jvm.ClassFile.FieldType), Jvm.Cond.code ({ cls := "java/lang/StringUTF16", name := "getChar", desc := "([BI)C" } : Jvm.MethodName) jdk_52_method_5_code (2 : Nat) (Option.some Jvm.ClassFile.FieldType.char), Jvm.Cond.code ({ cls := "java/lang/StringUTF16", name := "charAt", desc := "([BI)C" } : Jvm.MethodName) jdk_52_method_83_code (2 : Nat) (Option.some Jvm.ClassFile.FieldType.char), Jvm.Cond.code ({ cls := "java/lang/StringUTF16", name := "checkIndex", desc := "(I[B)V" } : Jvm.MethodName) jdk_52_method_91_code (2 : Nat) (Option.none : Option Jvm.ClassFile.FieldType), Jvm.Cond.code ({ cls := "java/lang/StringUTF16", name := "length", desc := "([B)I" } : Jvm.MethodName) jdk_52_method_6_code (1 : Nat) (Option.some Jvm.ClassFile.FieldType.int)]
set_option maxRecDepth 65536 in
theorem codes_eq : words1.filter isCode = codes1 := rfl
theorem w_codes : ∀ c ∈ words1.filter isCode, c.before args0 about1 = true := by
  rw [codes_eq]
  intro c hc
  simp only [codes1, List.mem_cons, List.not_mem_nil, or_false] at hc
  rcases hc with rfl | rfl | rfl | rfl | rfl | rfl | rfl | rfl | rfl | rfl | rfl | rfl | rfl | rfl | rfl | rfl | rfl | rfl | rfl | rfl | rfl | rfl | rfl | rfl | rfl | rfl | rfl
  · exact w_c0
  · exact w_c1
  · exact w_c2
  · exact w_c3
  · exact w_c4
  · exact w_c5
  · exact w_c6
  · exact w_c7
  · exact w_c8
  · exact w_c9
  · exact w_c10
  · exact w_c11
  · exact w_c12
  · exact w_c13
  · exact w_c14
  · exact w_c15
  · exact w_c16
  · exact w_c17
  · exact w_c18
  · exact w_c19
  · exact w_c20
  · exact w_c21
  · exact w_c22
  · exact w_c23
  · exact w_c24
  · exact w_c25
  · exact w_c26
set_option maxRecDepth 65536 in
theorem w_t1 : (words1.take 24).all (fun c => isCode c || c.before args0 about1) = true := by decide +kernel
set_option maxRecDepth 65536 in
theorem w_t2 : ((words1.drop 24).take 24).all (fun c => isCode c || c.before args0 about1) = true := by decide +kernel
set_option maxRecDepth 65536 in
theorem w_t3 : (((words1.drop 24).drop 24).take 24).all (fun c => isCode c || c.before args0 about1) = true := by decide +kernel
set_option maxRecDepth 65536 in
theorem w_t4 : ((((words1.drop 24).drop 24).drop 24).take 24).all (fun c => isCode c || c.before args0 about1) = true := by decide +kernel
set_option maxRecDepth 65536 in
theorem w_t5 : ((((words1.drop 24).drop 24).drop 24).drop 24).all (fun c => isCode c || c.before args0 about1) = true := by decide +kernel
theorem w_tables : (allAtoms (Jvm.Cond.code x code maxLocals ret :: tables_1)).before args0 about1 = true := by
  rw [allAtoms_all]
  show words1.all (fun c => c.before args0 about1) = true
  refine all_split ?_ w_codes
  rw [← List.take_append_drop 24 words1, List.all_append, w_t1, ← List.take_append_drop 24 (words1.drop 24), List.all_append, w_t2, ← List.take_append_drop 24 ((words1.drop 24).drop 24), List.all_append, w_t3, ← List.take_append_drop 24 (((words1.drop 24).drop 24).drop 24), List.all_append, w_t4, w_t5]
  rfl
set_option maxRecDepth 65536 in
theorem w_rest : rest_1_c.before args0 about1 = true := by decide +kernel
set_option maxRecDepth 65536 in
theorem w_case : (Jvm.Cond.and given_1 narrow_1).before args0 about1 = true := by decide +kernel
set_option maxRecDepth 65536 in
theorem w_consts : constsHeld consts_1 about1 := Jvm.Lit.constsHeldB_iff.mp (by decide +kernel)
theorem w_applies : (headSpec (Jvm.Cond.code x code maxLocals ret :: tables_1) room_1).applies x e0.platform about1 = true :=
  (Spec.applies_iff w_frames).mpr ⟨w_running, w_runnable, w_alone, w_named, w_hears, w_ripe, w_room, w_tables⟩
theorem atStart : AtStart classFile x code maxLocals ret World_1 tables_1 room_1 Calls_1 rest_1 Pre_1 launch0 p0 e0 about1 theMethod args0 below0 :=
  ⟨lists_1, trivial, launch0.admits_env _ _ _, launch0.least_env, fairChoices_fair.cas, fairChoices_fair.clock, w_frames, w_args, w_heap, w_applies, ⟨w_consts, trivial⟩, w_rest, w_case⟩
end start1
theorem witness_1 : WitnessClaimed_1 := ⟨start1.p0, start1.e0, start1.about1, start1.theMethod, start1.args0, start1.below0, start1.atStart⟩
end Jvm.Pilot.@@N@@
