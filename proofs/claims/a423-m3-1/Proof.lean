import JvmDerived
import JvmDerived.Pilot.@@N@@Statement
import JvmDerived.Pilot.@@N@@Code
set_option linter.unusedVariables false
set_option linter.unusedSimpArgs false
namespace Jvm.RoadKit
open Sem ClassFile Op Lib Jvm.Stand Jvm.Free Jvm.LawKit
section New
variable {p : Program} {l : Launch} {e : Env} {R : Room} {s : State} {m : MethodId} {args : Array Value} {below : List Frame} {meth : Method} {c : Code} {T : State} {locs : List Loc} {cells slots : Nat}
theorem retI (X : Stand p l e R s m args below meth c T locs cells slots) (hx : p.tables.exec = Jvm.exec) {pc : Nat} {Ls : Array Slot} {z : Int32} {rest : List Value} (hret : meth.sig.returnType = some .int) (hd : decode c.code pc = .ok (.ireturn, 1)) {fs : List Frame}
    (hl : ∀ (f : JFrame) (acts : List Action), f.method = m → f.locked = none → f.entered = [] → (doReturn e (T.setTop f) acts (some (.int z))).1 = T.setFrames fs) : Steps p.tables e below (T.setTop (mkF m pc Ls (.int z :: rest))) (T.setFrames fs) := by
  have hm' : T.vm.method? m = some meth := X.method'
  have hn : narrow .int (.int z) = .int z := rfl
  show Steps p.tables e below (T.setTop { method := m, pc := pc, locals := Ls, stack := _ :: rest, locked := none }) _
  jvm_step X.here [X.here.top, hx, hd, hm', hret, hn]
  first | (intro acts; rw [hl _ acts rfl rfl rfl]) | rw [hl _ _ rfl rfl rfl]
  exact Steps.refl _
end New
end Jvm.RoadKit
namespace Jvm.Pilot.@@N@@
open Jvm Jvm.ClassFile Sem Op Lib Jvm.Free Jvm.Stand Jvm.LawKit Jvm.RoadKit Bundle Jvm.Pilot.@@N@@.Jvm.D
/-- a truth value as the machine holds it -/
def bi (P : Prop) [Decidable P] : Int32 := if P then 1 else 0
theorem bi_t {P : Prop} [Decidable P] (h : P) : bi P = 1 := if_pos h
theorem bi_f {P : Prop} [Decidable P] (h : ¬ P) : bi P = 0 := if_neg h
theorem bi_n {P : Prop} [Decidable P] (h : P) : ¬ (bi P = 0) := by rw [bi_t h]; decide
theorem bi_nar {P : Prop} [Decidable P] : nar .boolean (bi P) = bi P := by
  by_cases h : P
  · rw [bi_t h]; rfl
  · rw [bi_f h]; rfl
theorem bi_c {P Q : Prop} [Decidable P] [Decidable Q] (h : P ↔ Q) : bi P = bi Q := by
  by_cases k : P
  · rw [bi_t k, bi_t (h.mp k)]
  · rw [bi_f k, bi_f fun x => k (h.mpr x)]
theorem own_ext {h h' : Heap} (K : Keep h h' []) : Ext h h' := ⟨K.1, fun a c r => K.2.1 a c r nin0⟩
theorem own_staK {Z : State} {h h' : Heap} {C n d : String} {v : Value} {ws : List Addr} (F : Sta Z h C n d v) (K : Keep h h' ws) (r : ∀ x ∈ ws, ∃ D, Exa Z h x D) : Sta Z h' C n d v := by
  obtain ⟨cf, i, k, f, st, cell, h1, h2, h3, h4, h5, h6, h7⟩ := F
  refine ⟨cf, i, k, f, st, cell, h1, h2, h3, h4, K.2.1 _ _ h5 (fun u => ?_), h6, h7⟩
  obtain ⟨D, c2, k2, g1, g2, g3, g4, g5⟩ := r st u
  cases h5.symm.trans g1
  rw [h6] at g4; cases g4
theorem own_eqI {args : Array Value} {s : State} {t : Term} {n : Int32} (h : (Jvm.Cond.eq t (.int n)).value args s none s [] = some true) : t.eval args s none [] s = some (.int n) := by
  obtain ⟨x, y, h1, h2, k1, k2⟩ := cmp_v (Or.inl h)
  cases (Term.int_eval n).symm.trans h2
  obtain ⟨z, rfl⟩ := k2
  have u := gotT (show (Jvm.Cond.eq t (.int n)).value args s none s [] = some (decide (z = n)) from by simp [Cond.value, h1, Term.eval]) h
  rw [h1, u]
theorem own_eqL {args : Array Value} {s : State} {t : Term} {n : Int64} (h : (Jvm.Cond.eq t (.long n)).value args s none s [] = some true) : t.eval args s none [] s = some (.long n) := by
  obtain ⟨x, y, h1, h2, k1, k2⟩ := cmp_v (Or.inl h)
  cases (long_at n).symm.trans h2
  obtain ⟨z, rfl⟩ := k2
  have u := gotT (eq_L h1 (long_at n)) h
  rw [h1, u]
def own_maxL (x y : Int64) : Int64 := if x < y then y else x
def own_maxI (x y : Int32) : Int32 := if x < y then y else x
def own_wait (i m : Int64) (d : Int32) : Int64 := if d < (64 : Int32) then (if (m >>> (d &&& 0x3f).toInt64) < i then m else (i <<< (d &&& 0x3f).toInt64)) else m
def own_exp (i m : Int64) (d : Int32) : Int64 := if d < (63 : Int32) then (if (m / ((1 : Int64) <<< (d &&& 0x3f).toInt64)) < i then m else (i * ((1 : Int64) <<< (d &&& 0x3f).toInt64))) else m
theorem own_or0 {q : Int64} (h : (q ||| ((0 : Int32).toInt64)) = (0 : Int64)) : q = 0 := by
  have : (0 : Int32).toInt64 = 0 := rfl
  rw [this] at h; simpa using h
theorem own_pow (d : Int32) : ∃ k : Nat, k < 64 ∧ d.toBitVec.toNat % 64 = k ∧ ((((1 : Int64) <<< (d &&& 0x3f).toInt64)).toInt - (2 ^ k : Nat)) % 18446744073709551616 = 0 := by
  refine ⟨d.toBitVec.toNat % 64, Nat.mod_lt _ (by decide), rfl, ?_⟩
  have := c_lshl 1 d _ rfl
  have e1 : (1 : Int64).toInt = 1 := rfl
  rw [e1, Int.one_mul] at this
  exact this
theorem own_pow_ne (d : Int32) : ((1 : Int64) <<< (d &&& 0x3f).toInt64) ≠ 0 := fun h => by
  obtain ⟨k, h1, -, h2⟩ := own_pow d
  rw [h] at h2
  have e0 : (0 : Int64).toInt = 0 := rfl
  rw [e0] at h2
  have a1 : 2 ^ k < 2 ^ 64 := Nat.pow_lt_pow_right (by decide) h1
  have a2 : 0 < 2 ^ k := Nat.pow_pos (by decide)
  omega
theorem own_key (i m : Int64) (d : Int32) (hi : 1 ≤ i.toInt) (hm : 0 ≤ m.toInt) (hd : 0 ≤ d.toInt) : own_wait i m d = own_exp i m d := by
  unfold own_wait own_exp
  have e64 : (64 : Int32).toInt = 64 := rfl
  have e63 : (63 : Int32).toInt = 63 := rfl
  by_cases h1 : d < (63 : Int32)
  · have h2 : d < (64 : Int32) := by rw [Int32.lt_iff_toInt_lt] at h1 ⊢; omega
    rw [if_pos h1, if_pos h2]
    obtain ⟨k, k1, k2, k3⟩ := own_pow d
    have k4 : k < 63 := by
      rw [Int32.lt_iff_toInt_lt] at h1
      have : (d.toBitVec.toNat : Int) = d.toInt := by
        have := BitVec.toInt_eq_toNat_cond d.toBitVec
        have e : d.toInt = d.toBitVec.toInt := rfl
        have l := d.toBitVec.isLt
        split at this <;> omega
      omega
    have a1 : 2 ^ k < 2 ^ 63 := Nat.pow_lt_pow_right (by decide) k4
    have a2 : 0 < 2 ^ k := Nat.pow_pos (by decide)
    have hP := rng64 ((1 : Int64) <<< (d &&& 0x3f).toInt64)
    have eP : ((1 : Int64) <<< (d &&& 0x3f).toInt64).toInt = (2 ^ k : Nat) := by omega
    have s1 := c_lshr m d k k2
    have s2 := (c_ldiv m ((1 : Int64) <<< (d &&& 0x3f).toInt64) _ eP (fun q => by rw [q] at eP; have e : (-1 : Int64).toInt = -1 := rfl; omega)).1 hm
    have s3 : (m >>> (d &&& 0x3f).toInt64) = (m / ((1 : Int64) <<< (d &&& 0x3f).toInt64)) := Int64.toInt_inj.mp (s1.trans s2.symm)
    rw [s3, show (i <<< (d &&& 0x3f).toInt64) = (i * ((1 : Int64) <<< (d &&& 0x3f).toInt64)) from shlmL rfl]
  · rw [if_neg h1]
    by_cases h2 : d < (64 : Int32)
    · rw [if_pos h2, if_pos]
      have k2 : d.toBitVec.toNat % 64 = 63 := by
        rw [Int32.lt_iff_toInt_lt] at h1 h2
        have := BitVec.toInt_eq_toNat_cond d.toBitVec
        have e : d.toInt = d.toBitVec.toInt := rfl
        have l := d.toBitVec.isLt
        split at this <;> omega
      have s1 := c_lshr m d 63 k2
      have hr := rng64 m
      rw [Int64.lt_iff_toInt_lt, s1]
      have : ((2 ^ 63 : Nat) : Int) = 9223372036854775808 := by decide
      rw [this]; omega
    · rw [if_neg h2]
theorem own_i (x : Int64) : 1 ≤ (own_maxL (1 : Int64) x).toInt := by
  unfold own_maxL
  have e1 : (1 : Int64).toInt = 1 := rfl
  by_cases h : (1 : Int64) < x
  · rw [if_pos h]; rw [Int64.lt_iff_toInt_lt] at h; omega
  · rw [if_neg h]; omega
theorem own_d (x : Int32) : 0 ≤ (own_maxI (2 : Int32) x - (2 : Int32)).toInt := by
  have e2 : (2 : Int32).toInt = 2 := rfl
  have : 2 ≤ (own_maxI (2 : Int32) x).toInt := by
    unfold own_maxI
    by_cases h : (2 : Int32) < x
    · rw [if_pos h]; rw [Int32.lt_iff_toInt_lt] at h; omega
    · rw [if_neg h]; omega
  have h1 := c_isub (own_maxI (2 : Int32) x) 2
  have h2 := rng32 (own_maxI (2 : Int32) x)
  have h3 := rng32 (own_maxI (2 : Int32) x - (2 : Int32))
  omega
theorem d1_0 : decode jdk_29_method_66_code 0 = .ok (.lload_n 0, 1) := by decide +kernel
theorem d1_1 : decode jdk_29_method_66_code 1 = .ok (.lload_n 2, 1) := by decide +kernel
theorem d1_2 : decode jdk_29_method_66_code 2 = .ok (.lcmp, 1) := by decide +kernel
theorem d1_3 : decode jdk_29_method_66_code 3 = .ok (.ifCond .lt 7, 3) := by decide +kernel
theorem d1_10 : decode jdk_29_method_66_code 10 = .ok (.lload_n 2, 1) := by decide +kernel
theorem d1_11 : decode jdk_29_method_66_code 11 = .ok (.lreturn, 1) := by decide +kernel
theorem d1_6 : decode jdk_29_method_66_code 6 = .ok (.lload_n 0, 1) := by decide +kernel
theorem d1_7 : decode jdk_29_method_66_code 7 = .ok (.goto 4, 3) := by decide +kernel
theorem ef_rm1 (m : MethodId) (q0 : Int64) (q1 : Int64) : entryFrame m #[(.long q0), (.long q1)] 4 = mkF m 0 #[.val (.long q0), .second, .val (.long q1), .second] [] := by first | (simp [entryFrame, mkF, argsToLocals, Value.category]; done) | rfl
def Qrm1 (Z : State) (q0 : Int64) (q1 : Int64) (h0 : Heap) (n0 : Nat) (v : Option Value) (h : Heap) (L : List Loc) : Prop := v = some (.long (own_maxL q0 q1)) ∧ Fr n0 L ∧ h = h0
set_option maxRecDepth 65536 in
set_option maxHeartbeats 40000000 in
theorem rm1 (l : Launch) (Z : State) (a0 : Array Value) (hw : ∀ d ∈ tables_1, d.before a0 Z = true) (ws : List Jvm.Cond) (q0 : Int64) (q1 : Int64) (h0 : Heap) (n0 : Nat) (Z0 : n0 ≤ h0.size) :
    MetFree l (⟨"java/lang/Math", "max", "(JJ)J"⟩ : MethodName) (head1 (Jvm.Cond.code (⟨"java/lang/Math", "max", "(JJ)J"⟩ : MethodName) jdk_29_method_66_code 4 (some .long) :: ws) ({ frames := 0, cells := 0, slots := 0, locals := 0 } : Room)) (fun a U => a = #[(.long q0), (.long q1)] ∧ Z.Warmed39 U.vm ∧ U.heap = h0) (fun _ _ _ _ _ => True) (fun _ U o U' => ∃ v L, o = .returned v ∧ Qrm1 Z q0 q1 h0 n0 v U'.heap L ∧ FrameEnd U o U' L ({ frames := 0, cells := 0, slots := 0, locals := 0 } : Room).cells ({ frames := 0, cells := 0, slots := 0, locals := 0 } : Room).slots) := by
  refine MetFree.of_bodySF (Jvm.Free.JP.mathPlain rfl (by decide +kernel)) hisR ?_
  intro p e s m args below meth c s₁ Bd hml0 hP hK
  obtain ⟨rfl, hZ, hh⟩ := hP
  have hx := Bd.exec
  have hby := Bd.bytes
  have hml : c.maxLocals = 4 := hml0
  have hown : s.vm.findClass "java/lang/Math" = some m.cls := findClass_of_methodNamed Bd.named
  have hnm := (name_of_methodNamed Bd.named Bd.method).1
  have X0 : Stand p l e ({ frames := 0, cells := 0, slots := 0, locals := 0 } : Room) s m #[(.long q0), (.long q1)] below meth c s₁ [] 0 0 := Stand.of_body Bd
  have e0 : s₁.heap = h0 := by rw [← hh, Bd.state]; rfl
  have N0 := Fr.nil n0
  have pre0 : ∀ t, Steps p.tables e below (s₁.setTop (mkF m 0 #[.val (.long q0), .second, .val (.long q1), .second] [])) t → Steps p.tables e below (s₁.setTop (entryFrame m #[(.long q0), (.long q1)] 4)) t := fun t k => castTop (ef_rm1 m q0 q1) k
  have KC0 : Keep h0 h0 [] := Keep.refl _ _
  have pre1 : ∀ t, Steps p.tables e below (s₁.setTop (mkF m 3 #[.val (.long q0), .second, .val (.long q1), .second] [(.int (lcmpW q0 q1))])) t → Steps p.tables e below (s₁.setTop (entryFrame m #[(.long q0), (.long q1)] 4)) t := fun t k => by
    refine pre0 _ ?_
    show Steps p.tables e below (s₁.setTop (mkF m 0 #[.val (.long q0), .second, .val (.long q1), .second] [])) _
    refine XS.lloadN X0.here hx rfl (hb hby d1_0) rfl ?_
    show Steps p.tables e below (s₁.setTop (mkF m 1 #[.val (.long q0), .second, .val (.long q1), .second] [(.long q0)])) _
    refine XS.lloadN X0.here hx rfl (hb hby d1_1) rfl ?_
    show Steps p.tables e below (s₁.setTop (mkF m 2 #[.val (.long q0), .second, .val (.long q1), .second] [(.long q1), (.long q0)])) _
    refine XS.lcmp X0.here hx rfl (hb hby d1_2) rfl ?_
    exact k
  by_cases hc2 : q0 < q1
  · obtain ⟨fs, hr, hrun, hended, hW, hsame⟩ := X0.leave (v := some (.long q1)) (fun h => by rw [Bd.returns] at h; cases h)
    refine ⟨_, _, pre1 _ ?_, hrun, hended, _, _, rfl, ?_, ⟨_, rfl⟩, hW, hsame.mono (by decide) (by decide)⟩
    · show Steps p.tables e below (s₁.setTop (mkF m 3 #[.val (.long q0), .second, .val (.long q1), .second] [(.int (lcmpW q0 q1))])) _
      refine XS.ifYes X0.here hx rfl (pc0 := 3) (pc' := 10) rfl (hb hby d1_3) rfl ((if0 _ _).trans (tlt (((lw_lt q0 q1).mpr hc2) : (lcmpW q0 q1) < (0 : Int32))).1) (by decide) (by decide) ?_
      show Steps p.tables e below (s₁.setTop (mkF m 10 #[.val (.long q0), .second, .val (.long q1), .second] [])) _
      refine XS.lloadN X0.here hx rfl (hb hby d1_10) rfl ?_
      show Steps p.tables e below (s₁.setTop (mkF m 11 #[.val (.long q0), .second, .val (.long q1), .second] [(.long q1)])) _
      exact X0.lreturnOut hx Bd.returns (hb hby d1_11) hr
    · show Qrm1 Z q0 q1 h0 n0 _ s₁.heap _
      rw [e0]
      exact ⟨(by unfold own_maxL; rw [if_pos hc2]), N0, rfl⟩
  · obtain ⟨fs, hr, hrun, hended, hW, hsame⟩ := X0.leave (v := some (.long q0)) (fun h => by rw [Bd.returns] at h; cases h)
    refine ⟨_, _, pre1 _ ?_, hrun, hended, _, _, rfl, ?_, ⟨_, rfl⟩, hW, hsame.mono (by decide) (by decide)⟩
    · show Steps p.tables e below (s₁.setTop (mkF m 3 #[.val (.long q0), .second, .val (.long q1), .second] [(.int (lcmpW q0 q1))])) _
      refine XS.ifNo X0.here hx rfl (hb hby d1_3) rfl ((if0 _ _).trans (flt ((fun k => hc2 ((lw_lt q0 q1).mp k)) : ¬ ((lcmpW q0 q1) < (0 : Int32)))).1) ?_
      show Steps p.tables e below (s₁.setTop (mkF m 6 #[.val (.long q0), .second, .val (.long q1), .second] [])) _
      refine XS.lloadN X0.here hx rfl (hb hby d1_6) rfl ?_
      show Steps p.tables e below (s₁.setTop (mkF m 7 #[.val (.long q0), .second, .val (.long q1), .second] [(.long q0)])) _
      refine XS.goto X0.here hx rfl (pc0 := 7) (pc' := 11) rfl (hb hby d1_7) (by decide) (by decide) ?_
      show Steps p.tables e below (s₁.setTop (mkF m 11 #[.val (.long q0), .second, .val (.long q1), .second] [(.long q0)])) _
      exact X0.lreturnOut hx Bd.returns (hb hby d1_11) hr
    · show Qrm1 Z q0 q1 h0 n0 _ s₁.heap _
      rw [e0]
      exact ⟨(by unfold own_maxL; rw [if_neg hc2]), N0, rfl⟩
theorem d2_0 : decode jdk_29_method_65_code 0 = .ok (.iload_n 0, 1) := by decide +kernel
theorem d2_1 : decode jdk_29_method_65_code 1 = .ok (.iload_n 1, 1) := by decide +kernel
theorem d2_2 : decode jdk_29_method_65_code 2 = .ok (.if_icmp .lt 7, 3) := by decide +kernel
theorem d2_9 : decode jdk_29_method_65_code 9 = .ok (.iload_n 1, 1) := by decide +kernel
theorem d2_10 : decode jdk_29_method_65_code 10 = .ok (.ireturn, 1) := by decide +kernel
theorem d2_5 : decode jdk_29_method_65_code 5 = .ok (.iload_n 0, 1) := by decide +kernel
theorem d2_6 : decode jdk_29_method_65_code 6 = .ok (.goto 4, 3) := by decide +kernel
theorem ef_rm2 (m : MethodId) (p0 : Int32) (p1 : Int32) : entryFrame m #[(.int p0), (.int p1)] 2 = mkF m 0 #[.val (.int p0), .val (.int p1)] [] := by first | (simp [entryFrame, mkF, argsToLocals, Value.category]; done) | rfl
def Qrm2 (Z : State) (p0 : Int32) (p1 : Int32) (h0 : Heap) (n0 : Nat) (v : Option Value) (h : Heap) (L : List Loc) : Prop := v = some (.int (own_maxI p0 p1)) ∧ Fr n0 L ∧ h = h0
set_option maxRecDepth 65536 in
set_option maxHeartbeats 40000000 in
theorem rm2 (l : Launch) (Z : State) (a0 : Array Value) (hw : ∀ d ∈ tables_1, d.before a0 Z = true) (ws : List Jvm.Cond) (p0 : Int32) (p1 : Int32) (h0 : Heap) (n0 : Nat) (Z0 : n0 ≤ h0.size) :
    MetFree l (⟨"java/lang/Math", "max", "(II)I"⟩ : MethodName) (head1 (Jvm.Cond.code (⟨"java/lang/Math", "max", "(II)I"⟩ : MethodName) jdk_29_method_65_code 2 (some .int) :: ws) ({ frames := 0, cells := 0, slots := 0, locals := 0 } : Room)) (fun a U => a = #[(.int p0), (.int p1)] ∧ Z.Warmed39 U.vm ∧ U.heap = h0) (fun _ _ _ _ _ => True) (fun _ U o U' => ∃ v L, o = .returned v ∧ Qrm2 Z p0 p1 h0 n0 v U'.heap L ∧ FrameEnd U o U' L ({ frames := 0, cells := 0, slots := 0, locals := 0 } : Room).cells ({ frames := 0, cells := 0, slots := 0, locals := 0 } : Room).slots) := by
  refine MetFree.of_bodySF (Jvm.Free.JP.mathPlain rfl (by decide +kernel)) hisR ?_
  intro p e s m args below meth c s₁ Bd hml0 hP hK
  obtain ⟨rfl, hZ, hh⟩ := hP
  have hx := Bd.exec
  have hby := Bd.bytes
  have hml : c.maxLocals = 2 := hml0
  have hown : s.vm.findClass "java/lang/Math" = some m.cls := findClass_of_methodNamed Bd.named
  have hnm := (name_of_methodNamed Bd.named Bd.method).1
  have X0 : Stand p l e ({ frames := 0, cells := 0, slots := 0, locals := 0 } : Room) s m #[(.int p0), (.int p1)] below meth c s₁ [] 0 0 := Stand.of_body Bd
  have e0 : s₁.heap = h0 := by rw [← hh, Bd.state]; rfl
  have N0 := Fr.nil n0
  have pre0 : ∀ t, Steps p.tables e below (s₁.setTop (mkF m 0 #[.val (.int p0), .val (.int p1)] [])) t → Steps p.tables e below (s₁.setTop (entryFrame m #[(.int p0), (.int p1)] 2)) t := fun t k => castTop (ef_rm2 m p0 p1) k
  have KC0 : Keep h0 h0 [] := Keep.refl _ _
  have pre3 : ∀ t, Steps p.tables e below (s₁.setTop (mkF m 2 #[.val (.int p0), .val (.int p1)] [(.int p1), (.int p0)])) t → Steps p.tables e below (s₁.setTop (entryFrame m #[(.int p0), (.int p1)] 2)) t := fun t k => by
    refine pre0 _ ?_
    show Steps p.tables e below (s₁.setTop (mkF m 0 #[.val (.int p0), .val (.int p1)] [])) _
    refine XS.iloadN X0.here hx rfl (hb hby d2_0) rfl ?_
    show Steps p.tables e below (s₁.setTop (mkF m 1 #[.val (.int p0), .val (.int p1)] [(.int p0)])) _
    refine XS.iloadN X0.here hx rfl (hb hby d2_1) rfl ?_
    exact k
  by_cases hc4 : p0 < p1
  · obtain ⟨fs, hr, hrun, hended, hW, hsame⟩ := X0.leave (v := some (.int p1)) (fun h => by rw [Bd.returns] at h; cases h)
    refine ⟨_, _, pre3 _ ?_, hrun, hended, _, _, rfl, ?_, ⟨_, rfl⟩, hW, hsame.mono (by decide) (by decide)⟩
    · show Steps p.tables e below (s₁.setTop (mkF m 2 #[.val (.int p0), .val (.int p1)] [(.int p1), (.int p0)])) _
      refine XS.icmpYes X0.here hx rfl (pc0 := 2) (pc' := 9) rfl (hb hby d2_2) rfl (tlt (hc4 : p0 < p1)).1 (by decide) (by decide) ?_
      show Steps p.tables e below (s₁.setTop (mkF m 9 #[.val (.int p0), .val (.int p1)] [])) _
      refine XS.iloadN X0.here hx rfl (hb hby d2_9) rfl ?_
      show Steps p.tables e below (s₁.setTop (mkF m 10 #[.val (.int p0), .val (.int p1)] [(.int p1)])) _
      exact retI X0 hx Bd.returns (hb hby d2_10) hr
    · show Qrm2 Z p0 p1 h0 n0 _ s₁.heap _
      rw [e0]
      exact ⟨(by unfold own_maxI; rw [if_pos hc4]), N0, rfl⟩
  · obtain ⟨fs, hr, hrun, hended, hW, hsame⟩ := X0.leave (v := some (.int p0)) (fun h => by rw [Bd.returns] at h; cases h)
    refine ⟨_, _, pre3 _ ?_, hrun, hended, _, _, rfl, ?_, ⟨_, rfl⟩, hW, hsame.mono (by decide) (by decide)⟩
    · show Steps p.tables e below (s₁.setTop (mkF m 2 #[.val (.int p0), .val (.int p1)] [(.int p1), (.int p0)])) _
      refine XS.icmpNo X0.here hx rfl (hb hby d2_2) rfl (flt (hc4 : ¬ (p0 < p1))).1 ?_
      show Steps p.tables e below (s₁.setTop (mkF m 5 #[.val (.int p0), .val (.int p1)] [])) _
      refine XS.iloadN X0.here hx rfl (hb hby d2_5) rfl ?_
      show Steps p.tables e below (s₁.setTop (mkF m 6 #[.val (.int p0), .val (.int p1)] [(.int p0)])) _
      refine XS.goto X0.here hx rfl (pc0 := 6) (pc' := 10) rfl (hb hby d2_6) (by decide) (by decide) ?_
      show Steps p.tables e below (s₁.setTop (mkF m 10 #[.val (.int p0), .val (.int p1)] [(.int p0)])) _
      exact retI X0 hx Bd.returns (hb hby d2_10) hr
    · show Qrm2 Z p0 p1 h0 n0 _ s₁.heap _
      rw [e0]
      exact ⟨(by unfold own_maxI; rw [if_neg hc4]), N0, rfl⟩
theorem d4_0 : decode jdk_30_method_1_code 0 = .ok (.aload_n 0, 1) := by decide +kernel
theorem d4_1 : decode jdk_30_method_1_code 1 = .ok (.invokespecial 1, 3) := by decide +kernel
theorem d4_4 : decode jdk_30_method_1_code 4 = .ok (.return_, 1) := by decide +kernel
theorem pn_4 : plainName "java/lang/Record" = true := by first | (simp [plainName, overriddenIn]; done) | decide +kernel
theorem ef_rm4 (m : MethodId) (o0 : Addr) : entryFrame m #[(.ref o0)] 1 = mkF m 0 #[.val (.ref o0)] [] := by first | (simp [entryFrame, mkF, argsToLocals, Value.category]; done) | rfl
def Qrm4 (Z : State) (o0 : Addr) (h0 : Heap) (n0 : Nat) (v : Option Value) (h : Heap) (L : List Loc) : Prop := v = none ∧ Fr n0 L ∧ h = h0
set_option maxRecDepth 65536 in
set_option maxHeartbeats 40000000 in
theorem rm4 (l : Launch) (Z : State) (a0 : Array Value) (hw : ∀ d ∈ tables_1, d.before a0 Z = true) (ws : List Jvm.Cond) (o0 : Addr) (h0 : Heap) (n0 : Nat) (Z0 : n0 ≤ h0.size) :
    MetFree l (⟨"java/lang/Record", "<init>", "()V"⟩ : MethodName) (head1 (Jvm.Cond.code (⟨"java/lang/Record", "<init>", "()V"⟩ : MethodName) jdk_30_method_1_code 1 none :: ws) ({ frames := 1, cells := 0, slots := 0, locals := 12 } : Room)) (fun a U => a = #[(.ref o0)] ∧ Z.Warmed39 U.vm ∧ U.heap = h0) (fun _ _ _ _ _ => True) (fun _ U o U' => ∃ v L, o = .returned v ∧ Qrm4 Z o0 h0 n0 v U'.heap L ∧ FrameEnd U o U' L ({ frames := 1, cells := 0, slots := 0, locals := 12 } : Room).cells ({ frames := 1, cells := 0, slots := 0, locals := 12 } : Room).slots) := by
  refine MetFree.of_bodySF (plainFor_of_name pn_4) hisR ?_
  intro p e s m args below meth c s₁ Bd hml0 hP hK
  obtain ⟨rfl, hZ, hh⟩ := hP
  have hx := Bd.exec
  have hby := Bd.bytes
  have hml : c.maxLocals = 1 := hml0
  have hown : s.vm.findClass "java/lang/Record" = some m.cls := findClass_of_methodNamed Bd.named
  have hnm := (name_of_methodNamed Bd.named Bd.method).1
  have X0 : Stand p l e ({ frames := 1, cells := 0, slots := 0, locals := 12 } : Room) s m #[(.ref o0)] below meth c s₁ [] 0 0 := Stand.of_body Bd
  have e0 : s₁.heap = h0 := by rw [← hh, Bd.state]; rfl
  have N0 := Fr.nil n0
  have pre0 : ∀ t, Steps p.tables e below (s₁.setTop (mkF m 0 #[.val (.ref o0)] [])) t → Steps p.tables e below (s₁.setTop (entryFrame m #[(.ref o0)] 1)) t := fun t k => castTop (ef_rm4 m o0) k
  have KC0 : Keep h0 h0 [] := Keep.refl _ _
  obtain ⟨T5, X5, e5, st5⟩ := initO X0 hx hZ hown (hw _ (List.mem_of_getElem? (i := 20) rfl)) (hw _ (List.mem_of_getElem? (i := 21) rfl)) (hw _ (List.mem_of_getElem? (i := 22) rfl)) e0 (g := (mkF m 1 #[.val (.ref o0)] [(.ref o0)])) rfl (by rw [hml]; rfl) rfl (hb hby d4_1) (by decide) (W := 0) (by show 2 * 0 + _ ≤ _; exact Nat.le_of_eq rfl) (by decide)
  obtain ⟨fs, hr, hrun, hended, hW, hsame⟩ := X5.leave (v := none) (fun _ => rfl)
  refine ⟨_, _, pre0 _ ?_, hrun, hended, _, _, rfl, ?_, ⟨_, rfl⟩, hW, hsame.mono (by decide) (by decide)⟩
  · show Steps p.tables e below (s₁.setTop (mkF m 0 #[.val (.ref o0)] [])) _
    refine XS.aloadN X0.here hx rfl (hb hby d4_0) rfl rfl ?_
    show Steps p.tables e below (s₁.setTop (mkF m 1 #[.val (.ref o0)] [(.ref o0)])) _
    refine st5 _ ?_
    show Steps p.tables e below (T5.setTop (mkF m 4 #[.val (.ref o0)] [])) _
    exact X5.returnOut hx Bd.returns (hb hby d4_4) hr
  · show Qrm4 Z o0 h0 n0 _ T5.heap _
    rw [e5]
    exact ⟨rfl, N0, rfl⟩
theorem d3_0 : decode prog_2_method_1_code 0 = .ok (.aload_n 0, 1) := by decide +kernel
theorem d3_1 : decode prog_2_method_1_code 1 = .ok (.invokespecial 1, 3) := by decide +kernel
theorem pd_0 : parseMethodDescriptor "()V" = some ⟨[], none⟩ := by decide +kernel
theorem d3_4 : decode prog_2_method_1_code 4 = .ok (.aload_n 0, 1) := by decide +kernel
theorem d3_5 : decode prog_2_method_1_code 5 = .ok (.lload_n 1, 1) := by decide +kernel
theorem d3_6 : decode prog_2_method_1_code 6 = .ok (.putfield 7, 3) := by decide +kernel
theorem d3_9 : decode prog_2_method_1_code 9 = .ok (.aload_n 0, 1) := by decide +kernel
theorem d3_10 : decode prog_2_method_1_code 10 = .ok (.lload_n 3, 1) := by decide +kernel
theorem d3_11 : decode prog_2_method_1_code 11 = .ok (.putfield 13, 3) := by decide +kernel
theorem d3_14 : decode prog_2_method_1_code 14 = .ok (.aload_n 0, 1) := by decide +kernel
theorem d3_15 : decode prog_2_method_1_code 15 = .ok (.lload 5, 2) := by decide +kernel
theorem d3_17 : decode prog_2_method_1_code 17 = .ok (.putfield 16, 3) := by decide +kernel
theorem d3_20 : decode prog_2_method_1_code 20 = .ok (.aload_n 0, 1) := by decide +kernel
theorem d3_21 : decode prog_2_method_1_code 21 = .ok (.iload 7, 2) := by decide +kernel
theorem d3_23 : decode prog_2_method_1_code 23 = .ok (.putfield 19, 3) := by decide +kernel
theorem d3_26 : decode prog_2_method_1_code 26 = .ok (.return_, 1) := by decide +kernel
theorem pn_3 : plainName "com/example/vervet/vervet/DeliveryPolicy" = true := by first | (simp [plainName, overriddenIn]; done) | decide +kernel
theorem ef_rm3 (m : MethodId) (o0 : Addr) (q1 : Int64) (q2 : Int64) (q3 : Int64) (p4 : Int32) : entryFrame m #[(.ref o0), (.long q1), (.long q2), (.long q3), (.int p4)] 8 = mkF m 0 #[.val (.ref o0), .val (.long q1), .second, .val (.long q2), .second, .val (.long q3), .second, .val (.int p4)] [] := by first | (simp [entryFrame, mkF, argsToLocals, Value.category]; done) | rfl
def Qrm3 (Z : State) (o0 : Addr) (q1 : Int64) (q2 : Int64) (q3 : Int64) (p4 : Int32) (h0 : Heap) (n0 : Nat) (v : Option Value) (h : Heap) (L : List Loc) : Prop := v = none ∧ Fr n0 L ∧ Keep h0 h [o0] ∧ Exa Z h o0 "com/example/vervet/vervet/DeliveryPolicy" ∧ Fld Z h o0 "com/example/vervet/vervet/DeliveryPolicy" "retryInitial" "J" (.long q2) ∧ Fld Z h o0 "com/example/vervet/vervet/DeliveryPolicy" "retryMaxDelay" "J" (.long q3)
set_option maxRecDepth 65536 in
set_option maxHeartbeats 40000000 in
theorem rm3 (l : Launch) (Z : State) (a0 : Array Value) (hw : ∀ d ∈ tables_1, d.before a0 Z = true) (ws : List Jvm.Cond) (o0 : Addr) (q1 : Int64) (q2 : Int64) (q3 : Int64) (p4 : Int32) (h0 : Heap) (n0 : Nat) (Z0 : n0 ≤ h0.size) (H0 : Exa Z h0 o0 "com/example/vervet/vervet/DeliveryPolicy") (H1 : Fld Z h0 o0 "com/example/vervet/vervet/DeliveryPolicy" "timeout" "J" (.long (0 : Int64))) (H2 : Fld Z h0 o0 "com/example/vervet/vervet/DeliveryPolicy" "retryInitial" "J" (.long (0 : Int64))) (H3 : Fld Z h0 o0 "com/example/vervet/vervet/DeliveryPolicy" "retryMaxDelay" "J" (.long (0 : Int64))) (H4 : Fld Z h0 o0 "com/example/vervet/vervet/DeliveryPolicy" "attempts" "I" (.int (0 : Int32))) (H5 : n0 ≤ o0) :
    MetFree l (⟨"com/example/vervet/vervet/DeliveryPolicy", "<init>", "(JJJI)V"⟩ : MethodName) (head1 (Jvm.Cond.code (⟨"com/example/vervet/vervet/DeliveryPolicy", "<init>", "(JJJI)V"⟩ : MethodName) prog_2_method_1_code 8 none :: ws) ({ frames := 2, cells := 0, slots := 0, locals := 24 } : Room)) (fun a U => a = #[(.ref o0), (.long q1), (.long q2), (.long q3), (.int p4)] ∧ Z.Warmed39 U.vm ∧ U.heap = h0) (fun _ _ _ _ _ => True) (fun _ U o U' => ∃ v L, o = .returned v ∧ Qrm3 Z o0 q1 q2 q3 p4 h0 n0 v U'.heap L ∧ FrameEnd U o U' L ({ frames := 2, cells := 0, slots := 0, locals := 24 } : Room).cells ({ frames := 2, cells := 0, slots := 0, locals := 24 } : Room).slots) := by
  refine MetFree.of_bodySF (plainFor_of_name pn_3) hisR ?_
  intro p e s m args below meth c s₁ Bd hml0 hP hK
  obtain ⟨rfl, hZ, hh⟩ := hP
  have hx := Bd.exec
  have hby := Bd.bytes
  have hml : c.maxLocals = 8 := hml0
  have hown : s.vm.findClass "com/example/vervet/vervet/DeliveryPolicy" = some m.cls := findClass_of_methodNamed Bd.named
  have hnm := (name_of_methodNamed Bd.named Bd.method).1
  have X0 : Stand p l e ({ frames := 2, cells := 0, slots := 0, locals := 24 } : Room) s m #[(.ref o0), (.long q1), (.long q2), (.long q3), (.int p4)] below meth c s₁ [] 0 0 := Stand.of_body Bd
  have e0 : s₁.heap = h0 := by rw [← hh, Bd.state]; rfl
  have N0 := Fr.nil n0
  have pre0 : ∀ t, Steps p.tables e below (s₁.setTop (mkF m 0 #[.val (.ref o0), .val (.long q1), .second, .val (.long q2), .second, .val (.long q3), .second, .val (.int p4)] [])) t → Steps p.tables e below (s₁.setTop (entryFrame m #[(.ref o0), (.long q1), (.long q2), (.long q3), (.int p4)] 8)) t := fun t k => castTop (ef_rm3 m o0 q1 q2 q3 p4) k
  have z6 : @LT.lt Nat _ o0 (Array.size h0) := H0.lt
  have z7 : @LT.lt Nat _ o0 (Array.size h0) := H1.lt
  have z8 : @LT.lt Nat _ o0 (Array.size h0) := H2.lt
  have z9 : @LT.lt Nat _ o0 (Array.size h0) := H3.lt
  have z10 : @LT.lt Nat _ o0 (Array.size h0) := H4.lt
  have KC0 : Keep h0 h0 [o0] := Keep.refl _ _
  obtain ⟨_, _, ⟨T11, L11, k11, n11⟩, -, X11, ⟨Lc11, hQ11, l11, y11, z11⟩, st11⟩ := X0.specialBack hx (y := (⟨"java/lang/Record", "<init>", "()V"⟩ : MethodName)) rfl hown (mvT hZ (hw _ (List.mem_of_getElem? (i := 15) rfl))) (mvT hZ (hw _ (List.mem_of_getElem? (i := 16) rfl))) (mvT hZ (hw _ (List.mem_of_getElem? (i := 19) rfl))) (by decide) (backOf (W := 0) (rm4 l Z a0 hw [] o0 h0 n0 (by omega)) hZ (hw _ (List.mem_of_getElem? (i := 19) rfl)) (hw _ (List.mem_of_getElem? (i := 18) rfl)) (by decide) (by decide)) (g := (mkF m 1 #[.val (.ref o0), .val (.long q1), .second, .val (.long q2), .second, .val (.long q3), .second, .val (.int p4)] [(.ref o0)])) rfl (by rw [hml]; rfl) (Steps.refl _) (a := o0) (argsL := []) (rest := []) (lenOf pd_0 rfl) rfl (by show 2 * 0 + _ ≤ _; exact Nat.le_of_eq rfl) (hb hby d3_1) (fun _ _ => ⟨rfl, e0, (by decide : 0 + 0 ≤ _), (by decide : 0 + 0 ≤ _)⟩)
  dsimp only [Pt.U, Pt.locs, Pt.cells, Pt.slots] at X11 l11 y11 z11 st11 hQ11
  subst l11 y11 z11
  obtain ⟨rfl, N11q, e11⟩ := hQ11
  have N11 := Fr.app N0 N11q
  obtain ⟨T12, h12, X12, e12, W12, st12⟩ := putF X11 hx hZ hown (host := "") (Or.inl (hw _ (List.mem_of_getElem? (i := 23) rfl))) Via.refl e11 H1 H0 (Or.inr ⟨(hw _ (List.mem_of_getElem? (i := 24) rfl)), rfl, hnm⟩) (hw _ (List.mem_of_getElem? (i := 10) rfl)) (ty := .long) (by decide) rfl rfl (g := (mkF m 6 #[.val (.ref o0), .val (.long q1), .second, .val (.long q2), .second, .val (.long q3), .second, .val (.int p4)] [(.long q1), (.ref o0)])) rfl rfl (hb hby d3_6)
  have z13 := W12.size
  have N12 := Fr.snoc X12 N11 (by omega : n0 ≤ o0)
  have KC14 : Keep h0 h12 [o0] := KC0.wr W12 (Or.inl (List.mem_of_getElem? (i := 0) rfl))
  have Fw12 := H1.same W12
  have Fc15 := (H0.wr W12)
  have Fc16 := (H2.other W12 (Or.inr (slot_ne (Or.inr (hw _ (List.mem_of_getElem? (i := 26) rfl))) (Or.inr (hw _ (List.mem_of_getElem? (i := 24) rfl))) (by decide) (t := .long) (t' := .long) (by decide) (by decide))))
  obtain ⟨T17, h17, X17, e17, W17, st17⟩ := putF X12 hx hZ hown (host := "") (Or.inl (hw _ (List.mem_of_getElem? (i := 25) rfl))) Via.refl e12 Fc16 Fc15 (Or.inr ⟨(hw _ (List.mem_of_getElem? (i := 26) rfl)), rfl, hnm⟩) (hw _ (List.mem_of_getElem? (i := 10) rfl)) (ty := .long) (by decide) rfl rfl (g := (mkF m 11 #[.val (.ref o0), .val (.long q1), .second, .val (.long q2), .second, .val (.long q3), .second, .val (.int p4)] [(.long q2), (.ref o0)])) rfl rfl (hb hby d3_11)
  have z18 := W17.size
  have N17 := Fr.snoc X17 N12 (by omega : n0 ≤ o0)
  have KC19 : Keep h0 h17 [o0] := KC14.wr W17 (Or.inl (List.mem_of_getElem? (i := 0) rfl))
  have Fw17 := Fc16.same W17
  have Fc20 := (Fc15.wr W17)
  have Fc21 := ((H3.other W12 (Or.inr (slot_ne (Or.inr (hw _ (List.mem_of_getElem? (i := 28) rfl))) (Or.inr (hw _ (List.mem_of_getElem? (i := 24) rfl))) (by decide) (t := .long) (t' := .long) (by decide) (by decide)))).other W17 (Or.inr (slot_ne (Or.inr (hw _ (List.mem_of_getElem? (i := 28) rfl))) (Or.inr (hw _ (List.mem_of_getElem? (i := 26) rfl))) (by decide) (t := .long) (t' := .long) (by decide) (by decide))))
  obtain ⟨T22, h22, X22, e22, W22, st22⟩ := putF X17 hx hZ hown (host := "") (Or.inl (hw _ (List.mem_of_getElem? (i := 27) rfl))) Via.refl e17 Fc21 Fc20 (Or.inr ⟨(hw _ (List.mem_of_getElem? (i := 28) rfl)), rfl, hnm⟩) (hw _ (List.mem_of_getElem? (i := 10) rfl)) (ty := .long) (by decide) rfl rfl (g := (mkF m 17 #[.val (.ref o0), .val (.long q1), .second, .val (.long q2), .second, .val (.long q3), .second, .val (.int p4)] [(.long q3), (.ref o0)])) rfl rfl (hb hby d3_17)
  have z23 := W22.size
  have N22 := Fr.snoc X22 N17 (by omega : n0 ≤ o0)
  have KC24 : Keep h0 h22 [o0] := KC19.wr W22 (Or.inl (List.mem_of_getElem? (i := 0) rfl))
  have Fw22 := Fc21.same W22
  have Fc25 := (Fc20.wr W22)
  have Fc26 := (((H4.other W12 (Or.inr (slot_ne (Or.inr (hw _ (List.mem_of_getElem? (i := 30) rfl))) (Or.inr (hw _ (List.mem_of_getElem? (i := 24) rfl))) (by decide) (t := .int) (t' := .long) (by decide) (by decide)))).other W17 (Or.inr (slot_ne (Or.inr (hw _ (List.mem_of_getElem? (i := 30) rfl))) (Or.inr (hw _ (List.mem_of_getElem? (i := 26) rfl))) (by decide) (t := .int) (t' := .long) (by decide) (by decide)))).other W22 (Or.inr (slot_ne (Or.inr (hw _ (List.mem_of_getElem? (i := 30) rfl))) (Or.inr (hw _ (List.mem_of_getElem? (i := 28) rfl))) (by decide) (t := .int) (t' := .long) (by decide) (by decide))))
  obtain ⟨T27, h27, X27, e27, W27, st27⟩ := putF X22 hx hZ hown (host := "") (Or.inl (hw _ (List.mem_of_getElem? (i := 29) rfl))) Via.refl e22 Fc26 Fc25 (Or.inr ⟨(hw _ (List.mem_of_getElem? (i := 30) rfl)), rfl, hnm⟩) (hw _ (List.mem_of_getElem? (i := 10) rfl)) (ty := .int) (by decide) rfl rfl (g := (mkF m 23 #[.val (.ref o0), .val (.long q1), .second, .val (.long q2), .second, .val (.long q3), .second, .val (.int p4)] [(.int p4), (.ref o0)])) rfl rfl (hb hby d3_23)
  have z28 := W27.size
  have N27 := Fr.snoc X27 N22 (by omega : n0 ≤ o0)
  have KC29 : Keep h0 h27 [o0] := KC24.wr W27 (Or.inl (List.mem_of_getElem? (i := 0) rfl))
  have Fw27 := Fc26.same W27
  obtain ⟨fs, hr, hrun, hended, hW, hsame⟩ := X27.leave (v := none) (fun _ => rfl)
  have Fc30 := (Fc25.wr W27)
  have Fc31 := ((Fw17.other W22 (Or.inr (slot_ne (Or.inr (hw _ (List.mem_of_getElem? (i := 26) rfl))) (Or.inr (hw _ (List.mem_of_getElem? (i := 28) rfl))) (by decide) (t := .long) (t' := .long) (by decide) (by decide)))).other W27 (Or.inr (slot_ne (Or.inr (hw _ (List.mem_of_getElem? (i := 26) rfl))) (Or.inr (hw _ (List.mem_of_getElem? (i := 30) rfl))) (by decide) (t := .long) (t' := .int) (by decide) (by decide))))
  have Fc32 := (Fw22.other W27 (Or.inr (slot_ne (Or.inr (hw _ (List.mem_of_getElem? (i := 28) rfl))) (Or.inr (hw _ (List.mem_of_getElem? (i := 30) rfl))) (by decide) (t := .long) (t' := .int) (by decide) (by decide))))
  refine ⟨_, _, pre0 _ ?_, hrun, hended, _, _, rfl, ?_, ⟨_, rfl⟩, hW, hsame.mono (by decide) (by decide)⟩
  · show Steps p.tables e below (s₁.setTop (mkF m 0 #[.val (.ref o0), .val (.long q1), .second, .val (.long q2), .second, .val (.long q3), .second, .val (.int p4)] [])) _
    refine XS.aloadN X0.here hx rfl (hb hby d3_0) rfl rfl ?_
    show Steps p.tables e below (s₁.setTop (mkF m 1 #[.val (.ref o0), .val (.long q1), .second, .val (.long q2), .second, .val (.long q3), .second, .val (.int p4)] [(.ref o0)])) _
    refine st11.trans ?_
    show Steps p.tables e below (T11.setTop (mkF m 4 #[.val (.ref o0), .val (.long q1), .second, .val (.long q2), .second, .val (.long q3), .second, .val (.int p4)] [])) _
    refine XS.aloadN X11.here hx rfl (hb hby d3_4) rfl rfl ?_
    show Steps p.tables e below (T11.setTop (mkF m 5 #[.val (.ref o0), .val (.long q1), .second, .val (.long q2), .second, .val (.long q3), .second, .val (.int p4)] [(.ref o0)])) _
    refine XS.lloadN X11.here hx rfl (hb hby d3_5) rfl ?_
    show Steps p.tables e below (T11.setTop (mkF m 6 #[.val (.ref o0), .val (.long q1), .second, .val (.long q2), .second, .val (.long q3), .second, .val (.int p4)] [(.long q1), (.ref o0)])) _
    refine st12 _ ?_
    show Steps p.tables e below (T12.setTop (mkF m 9 #[.val (.ref o0), .val (.long q1), .second, .val (.long q2), .second, .val (.long q3), .second, .val (.int p4)] [])) _
    refine XS.aloadN X12.here hx rfl (hb hby d3_9) rfl rfl ?_
    show Steps p.tables e below (T12.setTop (mkF m 10 #[.val (.ref o0), .val (.long q1), .second, .val (.long q2), .second, .val (.long q3), .second, .val (.int p4)] [(.ref o0)])) _
    refine XS.lloadN X12.here hx rfl (hb hby d3_10) rfl ?_
    show Steps p.tables e below (T12.setTop (mkF m 11 #[.val (.ref o0), .val (.long q1), .second, .val (.long q2), .second, .val (.long q3), .second, .val (.int p4)] [(.long q2), (.ref o0)])) _
    refine st17 _ ?_
    show Steps p.tables e below (T17.setTop (mkF m 14 #[.val (.ref o0), .val (.long q1), .second, .val (.long q2), .second, .val (.long q3), .second, .val (.int p4)] [])) _
    refine XS.aloadN X17.here hx rfl (hb hby d3_14) rfl rfl ?_
    show Steps p.tables e below (T17.setTop (mkF m 15 #[.val (.ref o0), .val (.long q1), .second, .val (.long q2), .second, .val (.long q3), .second, .val (.int p4)] [(.ref o0)])) _
    refine XS.lload X17.here hx rfl (hb hby d3_15) rfl ?_
    show Steps p.tables e below (T17.setTop (mkF m 17 #[.val (.ref o0), .val (.long q1), .second, .val (.long q2), .second, .val (.long q3), .second, .val (.int p4)] [(.long q3), (.ref o0)])) _
    refine st22 _ ?_
    show Steps p.tables e below (T22.setTop (mkF m 20 #[.val (.ref o0), .val (.long q1), .second, .val (.long q2), .second, .val (.long q3), .second, .val (.int p4)] [])) _
    refine XS.aloadN X22.here hx rfl (hb hby d3_20) rfl rfl ?_
    show Steps p.tables e below (T22.setTop (mkF m 21 #[.val (.ref o0), .val (.long q1), .second, .val (.long q2), .second, .val (.long q3), .second, .val (.int p4)] [(.ref o0)])) _
    refine XS.iload X22.here hx rfl (hb hby d3_21) rfl ?_
    show Steps p.tables e below (T22.setTop (mkF m 23 #[.val (.ref o0), .val (.long q1), .second, .val (.long q2), .second, .val (.long q3), .second, .val (.int p4)] [(.int p4), (.ref o0)])) _
    refine st27 _ ?_
    show Steps p.tables e below (T27.setTop (mkF m 26 #[.val (.ref o0), .val (.long q1), .second, .val (.long q2), .second, .val (.long q3), .second, .val (.int p4)] [])) _
    exact X27.returnOut hx Bd.returns (hb hby d3_26) hr
  · show Qrm3 Z o0 q1 q2 q3 p4 h0 n0 _ T27.heap _
    rw [e27]
    exact ⟨rfl, N27, KC29, Fc30, Fc31, Fc32⟩
theorem d9_0 : decode jdk_2316_method_17_code 0 = .ok (.aload_n 0, 1) := by decide +kernel
theorem d9_1 : decode jdk_2316_method_17_code 1 = .ok (.invokespecial 218, 3) := by decide +kernel
theorem d9_4 : decode jdk_2316_method_17_code 4 = .ok (.aload_n 0, 1) := by decide +kernel
theorem d9_5 : decode jdk_2316_method_17_code 5 = .ok (.lload_n 1, 1) := by decide +kernel
theorem d9_6 : decode jdk_2316_method_17_code 6 = .ok (.putfield 221, 3) := by decide +kernel
theorem d9_9 : decode jdk_2316_method_17_code 9 = .ok (.aload_n 0, 1) := by decide +kernel
theorem d9_10 : decode jdk_2316_method_17_code 10 = .ok (.iload_n 3, 1) := by decide +kernel
theorem d9_11 : decode jdk_2316_method_17_code 11 = .ok (.putfield 224, 3) := by decide +kernel
theorem d9_14 : decode jdk_2316_method_17_code 14 = .ok (.return_, 1) := by decide +kernel
theorem pn_9 : plainName "java/time/Duration" = true := by first | (simp [plainName, overriddenIn]; done) | decide +kernel
theorem ef_rm9 (m : MethodId) (o0 : Addr) (q1 : Int64) : entryFrame m #[(.ref o0), (.long q1), (.int (0 : Int32))] 4 = mkF m 0 #[.val (.ref o0), .val (.long q1), .second, .val (.int (0 : Int32))] [] := by first | (simp [entryFrame, mkF, argsToLocals, Value.category]; done) | rfl
def Qrm9 (Z : State) (o0 : Addr) (q1 : Int64) (h0 : Heap) (n0 : Nat) (v : Option Value) (h : Heap) (L : List Loc) : Prop := v = none ∧ Fr n0 L ∧ Keep h0 h [o0] ∧ Exa Z h o0 "java/time/Duration" ∧ Fld Z h o0 "java/time/Duration" "seconds" "J" (.long q1)
set_option maxRecDepth 65536 in
set_option maxHeartbeats 40000000 in
theorem rm9 (l : Launch) (Z : State) (a0 : Array Value) (hw : ∀ d ∈ tables_1, d.before a0 Z = true) (ws : List Jvm.Cond) (o0 : Addr) (q1 : Int64) (h0 : Heap) (n0 : Nat) (Z0 : n0 ≤ h0.size) (H0 : Exa Z h0 o0 "java/time/Duration") (H1 : Fld Z h0 o0 "java/time/Duration" "seconds" "J" (.long (0 : Int64))) (H2 : Fld Z h0 o0 "java/time/Duration" "nanos" "I" (.int (0 : Int32))) (H3 : n0 ≤ o0) :
    MetFree l (⟨"java/time/Duration", "<init>", "(JI)V"⟩ : MethodName) (head1 (Jvm.Cond.code (⟨"java/time/Duration", "<init>", "(JI)V"⟩ : MethodName) jdk_2316_method_17_code 4 none :: ws) ({ frames := 1, cells := 0, slots := 0, locals := 12 } : Room)) (fun a U => a = #[(.ref o0), (.long q1), (.int (0 : Int32))] ∧ Z.Warmed39 U.vm ∧ U.heap = h0) (fun _ _ _ _ _ => True) (fun _ U o U' => ∃ v L, o = .returned v ∧ Qrm9 Z o0 q1 h0 n0 v U'.heap L ∧ FrameEnd U o U' L ({ frames := 1, cells := 0, slots := 0, locals := 12 } : Room).cells ({ frames := 1, cells := 0, slots := 0, locals := 12 } : Room).slots) := by
  refine MetFree.of_bodySF (plainFor_of_name pn_9) hisR ?_
  intro p e s m args below meth c s₁ Bd hml0 hP hK
  obtain ⟨rfl, hZ, hh⟩ := hP
  have hx := Bd.exec
  have hby := Bd.bytes
  have hml : c.maxLocals = 4 := hml0
  have hown : s.vm.findClass "java/time/Duration" = some m.cls := findClass_of_methodNamed Bd.named
  have hnm := (name_of_methodNamed Bd.named Bd.method).1
  have X0 : Stand p l e ({ frames := 1, cells := 0, slots := 0, locals := 12 } : Room) s m #[(.ref o0), (.long q1), (.int (0 : Int32))] below meth c s₁ [] 0 0 := Stand.of_body Bd
  have e0 : s₁.heap = h0 := by rw [← hh, Bd.state]; rfl
  have N0 := Fr.nil n0
  have pre0 : ∀ t, Steps p.tables e below (s₁.setTop (mkF m 0 #[.val (.ref o0), .val (.long q1), .second, .val (.int (0 : Int32))] [])) t → Steps p.tables e below (s₁.setTop (entryFrame m #[(.ref o0), (.long q1), (.int (0 : Int32))] 4)) t := fun t k => castTop (ef_rm9 m o0 q1) k
  have z33 : @LT.lt Nat _ o0 (Array.size h0) := H0.lt
  have z34 : @LT.lt Nat _ o0 (Array.size h0) := H1.lt
  have z35 : @LT.lt Nat _ o0 (Array.size h0) := H2.lt
  have KC0 : Keep h0 h0 [o0] := Keep.refl _ _
  obtain ⟨T36, X36, e36, st36⟩ := initO X0 hx hZ hown (hw _ (List.mem_of_getElem? (i := 49) rfl)) (hw _ (List.mem_of_getElem? (i := 21) rfl)) (hw _ (List.mem_of_getElem? (i := 22) rfl)) e0 (g := (mkF m 1 #[.val (.ref o0), .val (.long q1), .second, .val (.int (0 : Int32))] [(.ref o0)])) rfl (by rw [hml]; rfl) rfl (hb hby d9_1) (by decide) (W := 0) (by show 2 * 0 + _ ≤ _; exact Nat.le_of_eq rfl) (by decide)
  obtain ⟨T37, h37, X37, e37, W37, st37⟩ := putF X36 hx hZ hown (host := "") (Or.inl (hw _ (List.mem_of_getElem? (i := 50) rfl))) Via.refl e36 H1 H0 (Or.inr ⟨(hw _ (List.mem_of_getElem? (i := 51) rfl)), rfl, hnm⟩) (hw _ (List.mem_of_getElem? (i := 44) rfl)) (ty := .long) (by decide) rfl rfl (g := (mkF m 6 #[.val (.ref o0), .val (.long q1), .second, .val (.int (0 : Int32))] [(.long q1), (.ref o0)])) rfl rfl (hb hby d9_6)
  have z38 := W37.size
  have N37 := Fr.snoc X37 N0 (by omega : n0 ≤ o0)
  have KC39 : Keep h0 h37 [o0] := KC0.wr W37 (Or.inl (List.mem_of_getElem? (i := 0) rfl))
  have Fw37 := H1.same W37
  have Fc40 := (H0.wr W37)
  have Fc41 := (H2.other W37 (Or.inr (slot_ne (Or.inr (hw _ (List.mem_of_getElem? (i := 53) rfl))) (Or.inr (hw _ (List.mem_of_getElem? (i := 51) rfl))) (by decide) (t := .int) (t' := .long) (by decide) (by decide))))
  obtain ⟨T42, h42, X42, e42, W42, st42⟩ := putF X37 hx hZ hown (host := "") (Or.inl (hw _ (List.mem_of_getElem? (i := 52) rfl))) Via.refl e37 Fc41 Fc40 (Or.inr ⟨(hw _ (List.mem_of_getElem? (i := 53) rfl)), rfl, hnm⟩) (hw _ (List.mem_of_getElem? (i := 44) rfl)) (ty := .int) (by decide) rfl rfl (g := (mkF m 11 #[.val (.ref o0), .val (.long q1), .second, .val (.int (0 : Int32))] [(.int (0 : Int32)), (.ref o0)])) rfl rfl (hb hby d9_11)
  have z43 := W42.size
  have N42 := Fr.snoc X42 N37 (by omega : n0 ≤ o0)
  have KC44 : Keep h0 h42 [o0] := KC39.wr W42 (Or.inl (List.mem_of_getElem? (i := 0) rfl))
  have Fw42 := Fc41.same W42
  obtain ⟨fs, hr, hrun, hended, hW, hsame⟩ := X42.leave (v := none) (fun _ => rfl)
  have Fc45 := (Fc40.wr W42)
  have Fc46 := (Fw37.other W42 (Or.inr (slot_ne (Or.inr (hw _ (List.mem_of_getElem? (i := 51) rfl))) (Or.inr (hw _ (List.mem_of_getElem? (i := 53) rfl))) (by decide) (t := .long) (t' := .int) (by decide) (by decide))))
  refine ⟨_, _, pre0 _ ?_, hrun, hended, _, _, rfl, ?_, ⟨_, rfl⟩, hW, hsame.mono (by decide) (by decide)⟩
  · show Steps p.tables e below (s₁.setTop (mkF m 0 #[.val (.ref o0), .val (.long q1), .second, .val (.int (0 : Int32))] [])) _
    refine XS.aloadN X0.here hx rfl (hb hby d9_0) rfl rfl ?_
    show Steps p.tables e below (s₁.setTop (mkF m 1 #[.val (.ref o0), .val (.long q1), .second, .val (.int (0 : Int32))] [(.ref o0)])) _
    refine st36 _ ?_
    show Steps p.tables e below (T36.setTop (mkF m 4 #[.val (.ref o0), .val (.long q1), .second, .val (.int (0 : Int32))] [])) _
    refine XS.aloadN X36.here hx rfl (hb hby d9_4) rfl rfl ?_
    show Steps p.tables e below (T36.setTop (mkF m 5 #[.val (.ref o0), .val (.long q1), .second, .val (.int (0 : Int32))] [(.ref o0)])) _
    refine XS.lloadN X36.here hx rfl (hb hby d9_5) rfl ?_
    show Steps p.tables e below (T36.setTop (mkF m 6 #[.val (.ref o0), .val (.long q1), .second, .val (.int (0 : Int32))] [(.long q1), (.ref o0)])) _
    refine st37 _ ?_
    show Steps p.tables e below (T37.setTop (mkF m 9 #[.val (.ref o0), .val (.long q1), .second, .val (.int (0 : Int32))] [])) _
    refine XS.aloadN X37.here hx rfl (hb hby d9_9) rfl rfl ?_
    show Steps p.tables e below (T37.setTop (mkF m 10 #[.val (.ref o0), .val (.long q1), .second, .val (.int (0 : Int32))] [(.ref o0)])) _
    refine XS.iloadN X37.here hx rfl (hb hby d9_10) rfl ?_
    show Steps p.tables e below (T37.setTop (mkF m 11 #[.val (.ref o0), .val (.long q1), .second, .val (.int (0 : Int32))] [(.int (0 : Int32)), (.ref o0)])) _
    refine st42 _ ?_
    show Steps p.tables e below (T42.setTop (mkF m 14 #[.val (.ref o0), .val (.long q1), .second, .val (.int (0 : Int32))] [])) _
    exact X42.returnOut hx Bd.returns (hb hby d9_14) hr
  · show Qrm9 Z o0 q1 h0 n0 _ T42.heap _
    rw [e42]
    exact ⟨rfl, N42, KC44, Fc45, Fc46⟩
theorem d8_0 : decode jdk_2316_method_16_code 0 = .ok (.lload_n 0, 1) := by decide +kernel
theorem d8_1 : decode jdk_2316_method_16_code 1 = .ok (.iload_n 2, 1) := by decide +kernel
theorem d8_2 : decode jdk_2316_method_16_code 2 = .ok (.i2l, 1) := by decide +kernel
theorem d8_3 : decode jdk_2316_method_16_code 3 = .ok (.lor, 1) := by decide +kernel
theorem d8_4 : decode jdk_2316_method_16_code 4 = .ok (.lconst 0, 1) := by decide +kernel
theorem d8_5 : decode jdk_2316_method_16_code 5 = .ok (.lcmp, 1) := by decide +kernel
theorem d8_6 : decode jdk_2316_method_16_code 6 = .ok (.ifCond .ne 7, 3) := by decide +kernel
theorem d8_9 : decode jdk_2316_method_16_code 9 = .ok (.getstatic 32, 3) := by decide +kernel
theorem d8_12 : decode jdk_2316_method_16_code 12 = .ok (.areturn, 1) := by decide +kernel
theorem d8_13 : decode jdk_2316_method_16_code 13 = .ok (.new 11, 3) := by decide +kernel
theorem d8_16 : decode jdk_2316_method_16_code 16 = .ok (.dup, 1) := by decide +kernel
theorem d8_17 : decode jdk_2316_method_16_code 17 = .ok (.lload_n 0, 1) := by decide +kernel
theorem d8_18 : decode jdk_2316_method_16_code 18 = .ok (.iload_n 2, 1) := by decide +kernel
theorem d8_19 : decode jdk_2316_method_16_code 19 = .ok (.invokespecial 215, 3) := by decide +kernel
theorem pd_1 : parseMethodDescriptor "(JI)V" = some ⟨[.long, .int], none⟩ := by decide +kernel
theorem d8_22 : decode jdk_2316_method_16_code 22 = .ok (.areturn, 1) := by decide +kernel
theorem ef_rm8 (m : MethodId) (q0 : Int64) : entryFrame m #[(.long q0), (.int (0 : Int32))] 3 = mkF m 0 #[.val (.long q0), .second, .val (.int (0 : Int32))] [] := by first | (simp [entryFrame, mkF, argsToLocals, Value.category]; done) | rfl
def Qrm8 (Z : State) (q0 : Int64) (z : Addr) (h0 : Heap) (n0 : Nat) (v : Option Value) (h : Heap) (L : List Loc) : Prop := ∃ r : Addr, v = some (.ref r) ∧ Fr n0 L ∧ Keep h0 h [] ∧ Exa Z h r "java/time/Duration" ∧ Fld Z h r "java/time/Duration" "seconds" "J" (.long q0)
set_option maxRecDepth 65536 in
set_option maxHeartbeats 40000000 in
theorem rm8 (l : Launch) (Z : State) (a0 : Array Value) (hw : ∀ d ∈ tables_1, d.before a0 Z = true) (ws : List Jvm.Cond) (q0 : Int64) (z : Addr) (h0 : Heap) (n0 : Nat) (Z0 : n0 ≤ h0.size) (H0 : Sta Z h0 "java/time/Duration" "ZERO" "Ljava/time/Duration;" (.ref z)) (H1 : Exa Z h0 z "java/time/Duration") (H2 : Fld Z h0 z "java/time/Duration" "seconds" "J" (.long (0 : Int64))) :
    MetFree l (⟨"java/time/Duration", "create", "(JI)Ljava/time/Duration;"⟩ : MethodName) (head1 (Jvm.Cond.code (⟨"java/time/Duration", "create", "(JI)Ljava/time/Duration;"⟩ : MethodName) jdk_2316_method_16_code 3 (some (.object "java/time/Duration")) :: ws) ({ frames := 2, cells := 1, slots := 2, locals := 28 } : Room)) (fun a U => a = #[(.long q0), (.int (0 : Int32))] ∧ Z.Warmed39 U.vm ∧ U.heap = h0) (fun _ _ _ _ _ => True) (fun _ U o U' => ∃ v L, o = .returned v ∧ Qrm8 Z q0 z h0 n0 v U'.heap L ∧ FrameEnd U o U' L ({ frames := 2, cells := 1, slots := 2, locals := 28 } : Room).cells ({ frames := 2, cells := 1, slots := 2, locals := 28 } : Room).slots) := by
  refine MetFree.of_bodySF (plainFor_of_name pn_9) hisR ?_
  intro p e s m args below meth c s₁ Bd hml0 hP hK
  obtain ⟨rfl, hZ, hh⟩ := hP
  have hx := Bd.exec
  have hby := Bd.bytes
  have hml : c.maxLocals = 3 := hml0
  have hown : s.vm.findClass "java/time/Duration" = some m.cls := findClass_of_methodNamed Bd.named
  have hnm := (name_of_methodNamed Bd.named Bd.method).1
  have X0 : Stand p l e ({ frames := 2, cells := 1, slots := 2, locals := 28 } : Room) s m #[(.long q0), (.int (0 : Int32))] below meth c s₁ [] 0 0 := Stand.of_body Bd
  have e0 : s₁.heap = h0 := by rw [← hh, Bd.state]; rfl
  have N0 := Fr.nil n0
  have pre0 : ∀ t, Steps p.tables e below (s₁.setTop (mkF m 0 #[.val (.long q0), .second, .val (.int (0 : Int32))] [])) t → Steps p.tables e below (s₁.setTop (entryFrame m #[(.long q0), (.int (0 : Int32))] 3)) t := fun t k => castTop (ef_rm8 m q0) k
  have z47 : @LT.lt Nat _ z (Array.size h0) := H1.lt
  have z48 : @LT.lt Nat _ z (Array.size h0) := H2.lt
  have KC0 : Keep h0 h0 [] := Keep.refl _ _
  have pre49 : ∀ t, Steps p.tables e below (s₁.setTop (mkF m 6 #[.val (.long q0), .second, .val (.int (0 : Int32))] [(.int (lcmpW (q0 ||| ((0 : Int32).toInt64)) (0 : Int64)))])) t → Steps p.tables e below (s₁.setTop (entryFrame m #[(.long q0), (.int (0 : Int32))] 3)) t := fun t k => by
    refine pre0 _ ?_
    show Steps p.tables e below (s₁.setTop (mkF m 0 #[.val (.long q0), .second, .val (.int (0 : Int32))] [])) _
    refine XS.lloadN X0.here hx rfl (hb hby d8_0) rfl ?_
    show Steps p.tables e below (s₁.setTop (mkF m 1 #[.val (.long q0), .second, .val (.int (0 : Int32))] [(.long q0)])) _
    refine XS.iloadN X0.here hx rfl (hb hby d8_1) rfl ?_
    show Steps p.tables e below (s₁.setTop (mkF m 2 #[.val (.long q0), .second, .val (.int (0 : Int32))] [(.int (0 : Int32)), (.long q0)])) _
    refine XS.i2l X0.here hx rfl (hb hby d8_2) rfl ?_
    show Steps p.tables e below (s₁.setTop (mkF m 3 #[.val (.long q0), .second, .val (.int (0 : Int32))] [(.long ((0 : Int32).toInt64)), (.long q0)])) _
    refine XS.lor X0.here hx rfl (hb hby d8_3) rfl ?_
    show Steps p.tables e below (s₁.setTop (mkF m 4 #[.val (.long q0), .second, .val (.int (0 : Int32))] [(.long (q0 ||| ((0 : Int32).toInt64)))])) _
    refine XS.lconst X0.here hx rfl (hb hby d8_4) ?_
    show Steps p.tables e below (s₁.setTop (mkF m 5 #[.val (.long q0), .second, .val (.int (0 : Int32))] [(.long (0 : Int64)), (.long (q0 ||| ((0 : Int32).toInt64)))])) _
    refine XS.lcmp X0.here hx rfl (hb hby d8_5) rfl ?_
    exact k
  by_cases hc50 : (q0 ||| ((0 : Int32).toInt64)) = (0 : Int64)
  · obtain ⟨T51, X51, e51, st51⟩ := getS2 X0 hx hZ hown (host := "") (Or.inl (hw _ (List.mem_of_getElem? (i := 63) rfl))) Via.refl e0 H0 (g := (mkF m 9 #[.val (.long q0), .second, .val (.int (0 : Int32))] [])) rfl (hb hby d8_9)
    obtain ⟨fs, hr, hrun, hended, hW, hsame⟩ := X51.leave (v := some (.ref z)) (fun h => by rw [Bd.returns] at h; cases h)
    refine ⟨_, _, pre49 _ ?_, hrun, hended, _, _, rfl, ?_, ⟨_, rfl⟩, hW, hsame.mono (by decide) (by decide)⟩
    · show Steps p.tables e below (s₁.setTop (mkF m 6 #[.val (.long q0), .second, .val (.int (0 : Int32))] [(.int (lcmpW (q0 ||| ((0 : Int32).toInt64)) (0 : Int64)))])) _
      refine XS.ifNo X0.here hx rfl (hb hby d8_6) rfl ((if0 _ _).trans (teq (((lw_eq (q0 ||| ((0 : Int32).toInt64)) (0 : Int64)).mpr hc50) : (lcmpW (q0 ||| ((0 : Int32).toInt64)) (0 : Int64)) = (0 : Int32))).2) ?_
      show Steps p.tables e below (s₁.setTop (mkF m 9 #[.val (.long q0), .second, .val (.int (0 : Int32))] [])) _
      refine st51 _ ?_
      show Steps p.tables e below (T51.setTop (mkF m 12 #[.val (.long q0), .second, .val (.int (0 : Int32))] [(.ref z)])) _
      jvm_step X51.here [X51.here.top, hx, (hb hby d8_12), X51.method', Bd.returns, Value.isRef, FieldType.isReference]
      first | (intro acts; rw [hr _ acts rfl rfl rfl]) | rw [hr _ _ rfl rfl rfl]
      exact Steps.refl _
    · show Qrm8 Z q0 z h0 n0 _ T51.heap _
      rw [e51]
      exact ⟨z, rfl, N0, KC0, H1, (by rw [own_or0 hc50]; exact H2)⟩
  · obtain ⟨T52, h52, X52, e52, E52, A52, D52, -, st52⟩ := newO X0 hx hZ hown (hw _ (List.mem_of_getElem? (i := 43) rfl)) (hw _ (List.mem_of_getElem? (i := 44) rfl)) (hw _ (List.mem_of_getElem? (i := 38) rfl)) e0 (g := (mkF m 13 #[.val (.long q0), .second, .val (.int (0 : Int32))] [])) rfl (hb hby d8_13) (by decide) (by decide)
    obtain ⟨b52, g52⟩ : ∃ z, z = h0.size := ⟨_, rfl⟩
    rw [← g52] at A52 D52 st52
    have z53 := E52.1
    have KC54 : Keep h0 h52 [] := KC0.ext E52
    have z55 : @LT.lt Nat _ b52 (Array.size h52) := A52.lt
    have F52_seconds : Fld Z h52 b52 "java/time/Duration" "seconds" "J" (.long (0 : Int64)) := D52 (Or.inr (hw _ (List.mem_of_getElem? (i := 51) rfl))) (ty := .long) (by decide)
    have F52_nanos : Fld Z h52 b52 "java/time/Duration" "nanos" "I" (.int (0 : Int32)) := D52 (Or.inr (hw _ (List.mem_of_getElem? (i := 53) rfl))) (ty := .int) (by decide)
    obtain ⟨_, _, ⟨T56, L56, k56, n56⟩, -, X56, ⟨Lc56, hQ56, l56, y56, z56⟩, st56⟩ := X52.specialBack hx (y := (⟨"java/time/Duration", "<init>", "(JI)V"⟩ : MethodName)) rfl hown (mvT hZ (hw _ (List.mem_of_getElem? (i := 45) rfl))) (mvT hZ (hw _ (List.mem_of_getElem? (i := 46) rfl))) (mvT hZ (hw _ (List.mem_of_getElem? (i := 48) rfl))) (by decide) (backOf (W := 1) (rm9 l Z a0 hw [] b52 q0 h52 n0 (by omega) A52 F52_seconds F52_nanos (by omega : n0 ≤ b52)) hZ (hw _ (List.mem_of_getElem? (i := 48) rfl)) (hw _ (List.mem_of_getElem? (i := 38) rfl)) (by decide) (by decide)) (g := (mkF m 19 #[.val (.long q0), .second, .val (.int (0 : Int32))] [(.int (0 : Int32)), (.long q0), (.ref b52), (.ref b52)])) rfl (by rw [hml]; rfl) (Steps.refl _) (a := b52) (argsL := [(.long q0), (.int (0 : Int32))]) (rest := [(.ref b52)]) (lenOf pd_1 rfl) rfl (by show 2 * 0 + _ ≤ _; exact Nat.le_of_eq rfl) (hb hby d8_19) (fun _ _ => ⟨rfl, e52, (by decide : 1 + 0 ≤ _), (by decide : 2 + 0 ≤ _)⟩)
    dsimp only [Pt.U, Pt.locs, Pt.cells, Pt.slots] at X56 l56 y56 z56 st56 hQ56
    subst l56 y56 z56
    obtain ⟨rfl, N56q, K56, P56_0, P56_1⟩ := hQ56
    have N56 := Fr.app N0 N56q
    have z57 := K56.1
    have KC58 : Keep h0 T56.heap [] := KC54.trans K56 (allS (Or.inr (by omega)) all0)
    have z59 : @LT.lt Nat _ b52 (Array.size T56.heap) := P56_0.lt
    have z60 : @LT.lt Nat _ b52 (Array.size T56.heap) := P56_1.lt
    obtain ⟨fs, hr, hrun, hended, hW, hsame⟩ := X56.leave (v := some (.ref b52)) (fun h => by rw [Bd.returns] at h; cases h)
    refine ⟨_, _, pre49 _ ?_, hrun, hended, _, _, rfl, ?_, ⟨_, rfl⟩, hW, hsame.mono (by decide) (by decide)⟩
    · show Steps p.tables e below (s₁.setTop (mkF m 6 #[.val (.long q0), .second, .val (.int (0 : Int32))] [(.int (lcmpW (q0 ||| ((0 : Int32).toInt64)) (0 : Int64)))])) _
      refine XS.ifYes X0.here hx rfl (pc0 := 6) (pc' := 13) rfl (hb hby d8_6) rfl ((if0 _ _).trans (feq ((fun k => hc50 ((lw_eq (q0 ||| ((0 : Int32).toInt64)) (0 : Int64)).mp k)) : ¬ ((lcmpW (q0 ||| ((0 : Int32).toInt64)) (0 : Int64)) = (0 : Int32)))).2) (by decide) (by decide) ?_
      show Steps p.tables e below (s₁.setTop (mkF m 13 #[.val (.long q0), .second, .val (.int (0 : Int32))] [])) _
      refine st52 _ ?_
      show Steps p.tables e below (T52.setTop (mkF m 16 #[.val (.long q0), .second, .val (.int (0 : Int32))] [(.ref b52)])) _
      refine XS.dup X52.here hx rfl (hb hby d8_16) rfl rfl ?_
      show Steps p.tables e below (T52.setTop (mkF m 17 #[.val (.long q0), .second, .val (.int (0 : Int32))] [(.ref b52), (.ref b52)])) _
      refine XS.lloadN X52.here hx rfl (hb hby d8_17) rfl ?_
      show Steps p.tables e below (T52.setTop (mkF m 18 #[.val (.long q0), .second, .val (.int (0 : Int32))] [(.long q0), (.ref b52), (.ref b52)])) _
      refine XS.iloadN X52.here hx rfl (hb hby d8_18) rfl ?_
      show Steps p.tables e below (T52.setTop (mkF m 19 #[.val (.long q0), .second, .val (.int (0 : Int32))] [(.int (0 : Int32)), (.long q0), (.ref b52), (.ref b52)])) _
      refine st56.trans ?_
      show Steps p.tables e below (T56.setTop (mkF m 22 #[.val (.long q0), .second, .val (.int (0 : Int32))] [(.ref b52)])) _
      jvm_step X56.here [X56.here.top, hx, (hb hby d8_22), X56.method', Bd.returns, Value.isRef, FieldType.isReference]
      first | (intro acts; rw [hr _ acts rfl rfl rfl]) | rw [hr _ _ rfl rfl rfl]
      exact Steps.refl _
    · show Qrm8 Z q0 z h0 n0 _ T56.heap _
      exact ⟨b52, rfl, N56, KC58, P56_0, P56_1⟩
theorem d7_0 : decode jdk_2316_method_4_code 0 = .ok (.lload_n 0, 1) := by decide +kernel
theorem d7_1 : decode jdk_2316_method_4_code 1 = .ok (.iconst 0, 1) := by decide +kernel
theorem d7_2 : decode jdk_2316_method_4_code 2 = .ok (.invokestatic 10, 3) := by decide +kernel
theorem pd_2 : parseMethodDescriptor "(JI)Ljava/time/Duration;" = some ⟨[.long, .int], some (.object "java/time/Duration")⟩ := by decide +kernel
theorem d7_5 : decode jdk_2316_method_4_code 5 = .ok (.areturn, 1) := by decide +kernel
theorem ef_rm7 (m : MethodId) (q0 : Int64) : entryFrame m #[(.long q0)] 2 = mkF m 0 #[.val (.long q0), .second] [] := by first | (simp [entryFrame, mkF, argsToLocals, Value.category]; done) | rfl
def Qrm7 (Z : State) (q0 : Int64) (z : Addr) (h0 : Heap) (n0 : Nat) (v : Option Value) (h : Heap) (L : List Loc) : Prop := ∃ r : Addr, v = some (.ref r) ∧ Fr n0 L ∧ Keep h0 h [] ∧ Exa Z h r "java/time/Duration" ∧ Fld Z h r "java/time/Duration" "seconds" "J" (.long q0)
set_option maxRecDepth 65536 in
set_option maxHeartbeats 40000000 in
theorem rm7 (l : Launch) (Z : State) (a0 : Array Value) (hw : ∀ d ∈ tables_1, d.before a0 Z = true) (ws : List Jvm.Cond) (q0 : Int64) (z : Addr) (h0 : Heap) (n0 : Nat) (Z0 : n0 ≤ h0.size) (H0 : Sta Z h0 "java/time/Duration" "ZERO" "Ljava/time/Duration;" (.ref z)) (H1 : Exa Z h0 z "java/time/Duration") (H2 : Fld Z h0 z "java/time/Duration" "seconds" "J" (.long (0 : Int64))) :
    MetFree l (⟨"java/time/Duration", "ofSeconds", "(J)Ljava/time/Duration;"⟩ : MethodName) (head1 (Jvm.Cond.code (⟨"java/time/Duration", "ofSeconds", "(J)Ljava/time/Duration;"⟩ : MethodName) jdk_2316_method_4_code 2 (some (.object "java/time/Duration")) :: ws) ({ frames := 3, cells := 1, slots := 2, locals := 42 } : Room)) (fun a U => a = #[(.long q0)] ∧ Z.Warmed39 U.vm ∧ U.heap = h0) (fun _ _ _ _ _ => True) (fun _ U o U' => ∃ v L, o = .returned v ∧ Qrm7 Z q0 z h0 n0 v U'.heap L ∧ FrameEnd U o U' L ({ frames := 3, cells := 1, slots := 2, locals := 42 } : Room).cells ({ frames := 3, cells := 1, slots := 2, locals := 42 } : Room).slots) := by
  refine MetFree.of_bodySF (plainFor_of_name pn_9) hisR ?_
  intro p e s m args below meth c s₁ Bd hml0 hP hK
  obtain ⟨rfl, hZ, hh⟩ := hP
  have hx := Bd.exec
  have hby := Bd.bytes
  have hml : c.maxLocals = 2 := hml0
  have hown : s.vm.findClass "java/time/Duration" = some m.cls := findClass_of_methodNamed Bd.named
  have hnm := (name_of_methodNamed Bd.named Bd.method).1
  have X0 : Stand p l e ({ frames := 3, cells := 1, slots := 2, locals := 42 } : Room) s m #[(.long q0)] below meth c s₁ [] 0 0 := Stand.of_body Bd
  have e0 : s₁.heap = h0 := by rw [← hh, Bd.state]; rfl
  have N0 := Fr.nil n0
  have pre0 : ∀ t, Steps p.tables e below (s₁.setTop (mkF m 0 #[.val (.long q0), .second] [])) t → Steps p.tables e below (s₁.setTop (entryFrame m #[(.long q0)] 2)) t := fun t k => castTop (ef_rm7 m q0) k
  have z61 : @LT.lt Nat _ z (Array.size h0) := H1.lt
  have z62 : @LT.lt Nat _ z (Array.size h0) := H2.lt
  have KC0 : Keep h0 h0 [] := Keep.refl _ _
  obtain ⟨_, _, ⟨T63, L63, k63, n63⟩, -, X63, ⟨Lc63, hQ63, l63, y63, z63⟩, st63⟩ := Jvm.LawKit.callS X0 hx (y := (⟨"java/time/Duration", "create", "(JI)Ljava/time/Duration;"⟩ : MethodName)) hown (mvT hZ (hw _ (List.mem_of_getElem? (i := 40) rfl))) (mvT hZ (hw _ (List.mem_of_getElem? (i := 41) rfl))) (mvT hZ (hw _ (List.mem_of_getElem? (i := 38) rfl))) (mvT hZ (hw _ (List.mem_of_getElem? (i := 42) rfl))) (by decide) (backOf (W := 0) (rm8 l Z a0 hw [] q0 z h0 n0 (by omega) H0 H1 H2) hZ (hw _ (List.mem_of_getElem? (i := 42) rfl)) (hw _ (List.mem_of_getElem? (i := 38) rfl)) (by decide) (by decide)) (g := (mkF m 2 #[.val (.long q0), .second] [(.int (0 : Int32)), (.long q0)])) rfl (by rw [hml]; rfl) (argsL := [(.long q0), (.int (0 : Int32))]) (rest := []) (lenOf pd_2 rfl) rfl (by show 2 * 0 + _ ≤ _; exact Nat.le_of_eq rfl) (hb hby d7_2) (fun _ _ => ⟨rfl, e0, (by decide : 0 + 1 ≤ _), (by decide : 0 + 2 ≤ _)⟩)
  dsimp only [Pt.U, Pt.locs, Pt.cells, Pt.slots] at X63 l63 y63 z63 st63 hQ63
  subst l63 y63 z63
  obtain ⟨r_63, rfl, N63q, K63, P63_0, P63_1⟩ := hQ63
  have N63 := Fr.app N0 N63q
  have z64 := K63.1
  have KC65 : Keep h0 T63.heap [] := KC0.trans K63 all0
  have z66 : @LT.lt Nat _ r_63 (Array.size T63.heap) := P63_0.lt
  have z67 : @LT.lt Nat _ r_63 (Array.size T63.heap) := P63_1.lt
  obtain ⟨fs, hr, hrun, hended, hW, hsame⟩ := X63.leave (v := some (.ref r_63)) (fun h => by rw [Bd.returns] at h; cases h)
  refine ⟨_, _, pre0 _ ?_, hrun, hended, _, _, rfl, ?_, ⟨_, rfl⟩, hW, hsame.mono (by decide) (by decide)⟩
  · show Steps p.tables e below (s₁.setTop (mkF m 0 #[.val (.long q0), .second] [])) _
    refine XS.lloadN X0.here hx rfl (hb hby d7_0) rfl ?_
    show Steps p.tables e below (s₁.setTop (mkF m 1 #[.val (.long q0), .second] [(.long q0)])) _
    refine XS.iconst X0.here hx rfl (hb hby d7_1) ?_
    show Steps p.tables e below (s₁.setTop (mkF m 2 #[.val (.long q0), .second] [(.int (0 : Int32)), (.long q0)])) _
    refine st63 _ ?_
    show Steps p.tables e below (T63.setTop (mkF m 5 #[.val (.long q0), .second] [(.ref r_63)])) _
    jvm_step X63.here [X63.here.top, hx, (hb hby d7_5), X63.method', Bd.returns, Value.isRef, FieldType.isReference]
    first | (intro acts; rw [hr _ acts rfl rfl rfl]) | rw [hr _ _ rfl rfl rfl]
    exact Steps.refl _
  · show Qrm7 Z q0 z h0 n0 _ T63.heap _
    exact ⟨r_63, rfl, N63, KC65, P63_0, P63_1⟩
theorem d6_0 : decode prog_2_method_2_code 0 = .ok (.iload_n 1, 1) := by decide +kernel
theorem d6_1 : decode prog_2_method_2_code 1 = .ok (.iconst 2, 1) := by decide +kernel
theorem d6_2 : decode prog_2_method_2_code 2 = .ok (.isub, 1) := by decide +kernel
theorem d6_3 : decode prog_2_method_2_code 3 = .ok (.istore_n 2, 1) := by decide +kernel
theorem d6_4 : decode prog_2_method_2_code 4 = .ok (.aload_n 0, 1) := by decide +kernel
theorem d6_5 : decode prog_2_method_2_code 5 = .ok (.getfield 16, 3) := by decide +kernel
theorem d6_8 : decode prog_2_method_2_code 8 = .ok (.lstore_n 3, 1) := by decide +kernel
theorem d6_9 : decode prog_2_method_2_code 9 = .ok (.iload_n 2, 1) := by decide +kernel
theorem d6_10 : decode prog_2_method_2_code 10 = .ok (.bipush 64, 2) := by decide +kernel
theorem d6_12 : decode prog_2_method_2_code 12 = .ok (.if_icmp .ge 24, 3) := by decide +kernel
theorem d6_15 : decode prog_2_method_2_code 15 = .ok (.aload_n 0, 1) := by decide +kernel
theorem d6_16 : decode prog_2_method_2_code 16 = .ok (.getfield 13, 3) := by decide +kernel
theorem d6_19 : decode prog_2_method_2_code 19 = .ok (.aload_n 0, 1) := by decide +kernel
theorem d6_20 : decode prog_2_method_2_code 20 = .ok (.getfield 16, 3) := by decide +kernel
theorem d6_23 : decode prog_2_method_2_code 23 = .ok (.iload_n 2, 1) := by decide +kernel
theorem d6_24 : decode prog_2_method_2_code 24 = .ok (.lshr, 1) := by decide +kernel
theorem d6_25 : decode prog_2_method_2_code 25 = .ok (.lcmp, 1) := by decide +kernel
theorem d6_26 : decode prog_2_method_2_code 26 = .ok (.ifCond .gt 10, 3) := by decide +kernel
theorem d6_36 : decode prog_2_method_2_code 36 = .ok (.lload_n 3, 1) := by decide +kernel
theorem d6_37 : decode prog_2_method_2_code 37 = .ok (.invokestatic 25, 3) := by decide +kernel
theorem pd_3 : parseMethodDescriptor "(J)Ljava/time/Duration;" = some ⟨[.long], some (.object "java/time/Duration")⟩ := by decide +kernel
theorem d6_40 : decode prog_2_method_2_code 40 = .ok (.areturn, 1) := by decide +kernel
theorem d6_29 : decode prog_2_method_2_code 29 = .ok (.aload_n 0, 1) := by decide +kernel
theorem d6_30 : decode prog_2_method_2_code 30 = .ok (.getfield 13, 3) := by decide +kernel
theorem d6_33 : decode prog_2_method_2_code 33 = .ok (.iload_n 2, 1) := by decide +kernel
theorem d6_34 : decode prog_2_method_2_code 34 = .ok (.lshl, 1) := by decide +kernel
theorem d6_35 : decode prog_2_method_2_code 35 = .ok (.lstore_n 3, 1) := by decide +kernel
theorem ef_rm6 (m : MethodId) (o0 : Addr) (p1 : Int32) : entryFrame m #[(.ref o0), (.int p1)] 5 = mkF m 0 #[.val (.ref o0), .val (.int p1), .unset, .unset, .unset] [] := by first | (simp [entryFrame, mkF, argsToLocals, Value.category]; done) | rfl
def Qrm6 (Z : State) (o0 : Addr) (p1 : Int32) (qi : Int64) (qm : Int64) (z : Addr) (h0 : Heap) (n0 : Nat) (v : Option Value) (h : Heap) (L : List Loc) : Prop := ∃ r : Addr, v = some (.ref r) ∧ Fr n0 L ∧ Keep h0 h [] ∧ Exa Z h r "java/time/Duration" ∧ Fld Z h r "java/time/Duration" "seconds" "J" (.long (own_wait qi qm (p1 - (2 : Int32))))
set_option maxRecDepth 65536 in
set_option maxHeartbeats 40000000 in
theorem rm6 (l : Launch) (Z : State) (a0 : Array Value) (hw : ∀ d ∈ tables_1, d.before a0 Z = true) (ws : List Jvm.Cond) (o0 : Addr) (p1 : Int32) (qi : Int64) (qm : Int64) (z : Addr) (h0 : Heap) (n0 : Nat) (Z0 : n0 ≤ h0.size) (H0 : Fld Z h0 o0 "com/example/vervet/vervet/DeliveryPolicy" "retryInitial" "J" (.long qi)) (H1 : Fld Z h0 o0 "com/example/vervet/vervet/DeliveryPolicy" "retryMaxDelay" "J" (.long qm)) (H2 : Sta Z h0 "java/time/Duration" "ZERO" "Ljava/time/Duration;" (.ref z)) (H3 : Exa Z h0 z "java/time/Duration") (H4 : Fld Z h0 z "java/time/Duration" "seconds" "J" (.long (0 : Int64))) :
    MetFree l (⟨"com/example/vervet/vervet/DeliveryPolicy", "waitBefore", "(I)Ljava/time/Duration;"⟩ : MethodName) (head1 (Jvm.Cond.code (⟨"com/example/vervet/vervet/DeliveryPolicy", "waitBefore", "(I)Ljava/time/Duration;"⟩ : MethodName) prog_2_method_2_code 5 (some (.object "java/time/Duration")) :: ws) ({ frames := 4, cells := 1, slots := 2, locals := 55 } : Room)) (fun a U => a = #[(.ref o0), (.int p1)] ∧ Z.Warmed39 U.vm ∧ U.heap = h0) (fun _ _ _ _ _ => True) (fun _ U o U' => ∃ v L, o = .returned v ∧ Qrm6 Z o0 p1 qi qm z h0 n0 v U'.heap L ∧ FrameEnd U o U' L ({ frames := 4, cells := 1, slots := 2, locals := 55 } : Room).cells ({ frames := 4, cells := 1, slots := 2, locals := 55 } : Room).slots) := by
  refine MetFree.of_bodySF (plainFor_of_name pn_3) hisR ?_
  intro p e s m args below meth c s₁ Bd hml0 hP hK
  obtain ⟨rfl, hZ, hh⟩ := hP
  have hx := Bd.exec
  have hby := Bd.bytes
  have hml : c.maxLocals = 5 := hml0
  have hown : s.vm.findClass "com/example/vervet/vervet/DeliveryPolicy" = some m.cls := findClass_of_methodNamed Bd.named
  have hnm := (name_of_methodNamed Bd.named Bd.method).1
  have X0 : Stand p l e ({ frames := 4, cells := 1, slots := 2, locals := 55 } : Room) s m #[(.ref o0), (.int p1)] below meth c s₁ [] 0 0 := Stand.of_body Bd
  have e0 : s₁.heap = h0 := by rw [← hh, Bd.state]; rfl
  have N0 := Fr.nil n0
  have pre0 : ∀ t, Steps p.tables e below (s₁.setTop (mkF m 0 #[.val (.ref o0), .val (.int p1), .unset, .unset, .unset] [])) t → Steps p.tables e below (s₁.setTop (entryFrame m #[(.ref o0), (.int p1)] 5)) t := fun t k => castTop (ef_rm6 m o0 p1) k
  have z68 : @LT.lt Nat _ o0 (Array.size h0) := H0.lt
  have z69 : @LT.lt Nat _ o0 (Array.size h0) := H1.lt
  have z70 : @LT.lt Nat _ z (Array.size h0) := H3.lt
  have z71 : @LT.lt Nat _ z (Array.size h0) := H4.lt
  have KC0 : Keep h0 h0 [] := Keep.refl _ _
  obtain ⟨T72, X72, e72, st72⟩ := getF X0 hx hZ hown (host := "") (Or.inl (hw _ (List.mem_of_getElem? (i := 27) rfl))) Via.refl e0 H1 (g := (mkF m 5 #[.val (.ref o0), .val (.int p1), .val (.int (p1 - (2 : Int32))), .unset, .unset] [(.ref o0)])) rfl rfl (hb hby d6_5)
  have pre73 : ∀ t, Steps p.tables e below (T72.setTop (mkF m 12 #[.val (.ref o0), .val (.int p1), .val (.int (p1 - (2 : Int32))), .val (.long qm), .second] [(.int (64 : Int32)), (.int (p1 - (2 : Int32)))])) t → Steps p.tables e below (s₁.setTop (entryFrame m #[(.ref o0), (.int p1)] 5)) t := fun t k => by
    refine pre0 _ ?_
    show Steps p.tables e below (s₁.setTop (mkF m 0 #[.val (.ref o0), .val (.int p1), .unset, .unset, .unset] [])) _
    refine XS.iloadN X0.here hx rfl (hb hby d6_0) rfl ?_
    show Steps p.tables e below (s₁.setTop (mkF m 1 #[.val (.ref o0), .val (.int p1), .unset, .unset, .unset] [(.int p1)])) _
    refine XS.iconst X0.here hx rfl (hb hby d6_1) ?_
    show Steps p.tables e below (s₁.setTop (mkF m 2 #[.val (.ref o0), .val (.int p1), .unset, .unset, .unset] [(.int (2 : Int32)), (.int p1)])) _
    refine XS.isub X0.here hx rfl (hb hby d6_2) rfl ?_
    show Steps p.tables e below (s₁.setTop (mkF m 3 #[.val (.ref o0), .val (.int p1), .unset, .unset, .unset] [(.int (p1 - (2 : Int32)))])) _
    refine XS.istoreN X0.here hx rfl (hb hby d6_3) rfl (l' := #[.val (.ref o0), .val (.int p1), .val (.int (p1 - (2 : Int32))), .unset, .unset]) rfl ?_
    show Steps p.tables e below (s₁.setTop (mkF m 4 #[.val (.ref o0), .val (.int p1), .val (.int (p1 - (2 : Int32))), .unset, .unset] [])) _
    refine XS.aloadN X0.here hx rfl (hb hby d6_4) rfl rfl ?_
    show Steps p.tables e below (s₁.setTop (mkF m 5 #[.val (.ref o0), .val (.int p1), .val (.int (p1 - (2 : Int32))), .unset, .unset] [(.ref o0)])) _
    refine st72 _ ?_
    show Steps p.tables e below (T72.setTop (mkF m 8 #[.val (.ref o0), .val (.int p1), .val (.int (p1 - (2 : Int32))), .unset, .unset] [(.long qm)])) _
    refine XS.lstoreN X72.here hx rfl (hb hby d6_8) rfl (l' := #[.val (.ref o0), .val (.int p1), .val (.int (p1 - (2 : Int32))), .val (.long qm), .second]) rfl ?_
    show Steps p.tables e below (T72.setTop (mkF m 9 #[.val (.ref o0), .val (.int p1), .val (.int (p1 - (2 : Int32))), .val (.long qm), .second] [])) _
    refine XS.iloadN X72.here hx rfl (hb hby d6_9) rfl ?_
    show Steps p.tables e below (T72.setTop (mkF m 10 #[.val (.ref o0), .val (.int p1), .val (.int (p1 - (2 : Int32))), .val (.long qm), .second] [(.int (p1 - (2 : Int32)))])) _
    refine XS.bipush X72.here hx rfl (hb hby d6_10) ?_
    exact k
  by_cases hc74 : (p1 - (2 : Int32)) < (64 : Int32)
  · obtain ⟨T75, X75, e75, st75⟩ := getF X72 hx hZ hown (host := "") (Or.inl (hw _ (List.mem_of_getElem? (i := 25) rfl))) Via.refl e72 H0 (g := (mkF m 16 #[.val (.ref o0), .val (.int p1), .val (.int (p1 - (2 : Int32))), .val (.long qm), .second] [(.ref o0)])) rfl rfl (hb hby d6_16)
    obtain ⟨T76, X76, e76, st76⟩ := getF X75 hx hZ hown (host := "") (Or.inl (hw _ (List.mem_of_getElem? (i := 27) rfl))) Via.refl e75 H1 (g := (mkF m 20 #[.val (.ref o0), .val (.int p1), .val (.int (p1 - (2 : Int32))), .val (.long qm), .second] [(.ref o0), (.long qi)])) rfl rfl (hb hby d6_20)
    have pre77 : ∀ t, Steps p.tables e below (T76.setTop (mkF m 26 #[.val (.ref o0), .val (.int p1), .val (.int (p1 - (2 : Int32))), .val (.long qm), .second] [(.int (lcmpW qi (qm >>> ((p1 - (2 : Int32)) &&& 0x3f).toInt64)))])) t → Steps p.tables e below (s₁.setTop (entryFrame m #[(.ref o0), (.int p1)] 5)) t := fun t k => by
      refine pre73 _ ?_
      show Steps p.tables e below (T72.setTop (mkF m 12 #[.val (.ref o0), .val (.int p1), .val (.int (p1 - (2 : Int32))), .val (.long qm), .second] [(.int (64 : Int32)), (.int (p1 - (2 : Int32)))])) _
      refine XS.icmpNo X72.here hx rfl (hb hby d6_12) rfl (tlt (hc74 : (p1 - (2 : Int32)) < (64 : Int32))).2.1 ?_
      show Steps p.tables e below (T72.setTop (mkF m 15 #[.val (.ref o0), .val (.int p1), .val (.int (p1 - (2 : Int32))), .val (.long qm), .second] [])) _
      refine XS.aloadN X72.here hx rfl (hb hby d6_15) rfl rfl ?_
      show Steps p.tables e below (T72.setTop (mkF m 16 #[.val (.ref o0), .val (.int p1), .val (.int (p1 - (2 : Int32))), .val (.long qm), .second] [(.ref o0)])) _
      refine st75 _ ?_
      show Steps p.tables e below (T75.setTop (mkF m 19 #[.val (.ref o0), .val (.int p1), .val (.int (p1 - (2 : Int32))), .val (.long qm), .second] [(.long qi)])) _
      refine XS.aloadN X75.here hx rfl (hb hby d6_19) rfl rfl ?_
      show Steps p.tables e below (T75.setTop (mkF m 20 #[.val (.ref o0), .val (.int p1), .val (.int (p1 - (2 : Int32))), .val (.long qm), .second] [(.ref o0), (.long qi)])) _
      refine st76 _ ?_
      show Steps p.tables e below (T76.setTop (mkF m 23 #[.val (.ref o0), .val (.int p1), .val (.int (p1 - (2 : Int32))), .val (.long qm), .second] [(.long qm), (.long qi)])) _
      refine XS.iloadN X76.here hx rfl (hb hby d6_23) rfl ?_
      show Steps p.tables e below (T76.setTop (mkF m 24 #[.val (.ref o0), .val (.int p1), .val (.int (p1 - (2 : Int32))), .val (.long qm), .second] [(.int (p1 - (2 : Int32))), (.long qm), (.long qi)])) _
      refine XS.lshr X76.here hx rfl (hb hby d6_24) rfl ?_
      show Steps p.tables e below (T76.setTop (mkF m 25 #[.val (.ref o0), .val (.int p1), .val (.int (p1 - (2 : Int32))), .val (.long qm), .second] [(.long (qm >>> ((p1 - (2 : Int32)) &&& 0x3f).toInt64)), (.long qi)])) _
      refine XS.lcmp X76.here hx rfl (hb hby d6_25) rfl ?_
      exact k
    by_cases hc78 : (qm >>> ((p1 - (2 : Int32)) &&& 0x3f).toInt64) < qi
    · obtain ⟨_, _, ⟨T79, L79, k79, n79⟩, -, X79, ⟨Lc79, hQ79, l79, y79, z79⟩, st79⟩ := Jvm.LawKit.callS X76 hx (y := (⟨"java/time/Duration", "ofSeconds", "(J)Ljava/time/Duration;"⟩ : MethodName)) hown (mvT hZ (hw _ (List.mem_of_getElem? (i := 36) rfl))) (mvT hZ (hw _ (List.mem_of_getElem? (i := 37) rfl))) (mvT hZ (hw _ (List.mem_of_getElem? (i := 38) rfl))) (mvT hZ (hw _ (List.mem_of_getElem? (i := 39) rfl))) (by decide) (backOf (W := 0) (rm7 l Z a0 hw [] qm z h0 n0 (by omega) H2 H3 H4) hZ (hw _ (List.mem_of_getElem? (i := 39) rfl)) (hw _ (List.mem_of_getElem? (i := 38) rfl)) (by decide) (by decide)) (g := (mkF m 37 #[.val (.ref o0), .val (.int p1), .val (.int (p1 - (2 : Int32))), .val (.long qm), .second] [(.long qm)])) rfl (by rw [hml]; rfl) (argsL := [(.long qm)]) (rest := []) (lenOf pd_3 rfl) rfl (by show 2 * 0 + _ ≤ _; exact Nat.le_of_eq rfl) (hb hby d6_37) (fun _ _ => ⟨rfl, e76, (by decide : 0 + 1 ≤ _), (by decide : 0 + 2 ≤ _)⟩)
      dsimp only [Pt.U, Pt.locs, Pt.cells, Pt.slots] at X79 l79 y79 z79 st79 hQ79
      subst l79 y79 z79
      obtain ⟨r_79, rfl, N79q, K79, P79_0, P79_1⟩ := hQ79
      have N79 := Fr.app N0 N79q
      have z80 := K79.1
      have KC81 : Keep h0 T79.heap [] := KC0.trans K79 all0
      have z82 : @LT.lt Nat _ r_79 (Array.size T79.heap) := P79_0.lt
      have z83 : @LT.lt Nat _ r_79 (Array.size T79.heap) := P79_1.lt
      obtain ⟨fs, hr, hrun, hended, hW, hsame⟩ := X79.leave (v := some (.ref r_79)) (fun h => by rw [Bd.returns] at h; cases h)
      refine ⟨_, _, pre77 _ ?_, hrun, hended, _, _, rfl, ?_, ⟨_, rfl⟩, hW, hsame.mono (by decide) (by decide)⟩
      · show Steps p.tables e below (T76.setTop (mkF m 26 #[.val (.ref o0), .val (.int p1), .val (.int (p1 - (2 : Int32))), .val (.long qm), .second] [(.int (lcmpW qi (qm >>> ((p1 - (2 : Int32)) &&& 0x3f).toInt64)))])) _
        refine XS.ifYes X76.here hx rfl (pc0 := 26) (pc' := 36) rfl (hb hby d6_26) rfl ((if0 _ _).trans (tlt (((lw_gt qi (qm >>> ((p1 - (2 : Int32)) &&& 0x3f).toInt64)).mpr hc78) : (0 : Int32) < (lcmpW qi (qm >>> ((p1 - (2 : Int32)) &&& 0x3f).toInt64)))).2.2.1) (by decide) (by decide) ?_
        show Steps p.tables e below (T76.setTop (mkF m 36 #[.val (.ref o0), .val (.int p1), .val (.int (p1 - (2 : Int32))), .val (.long qm), .second] [])) _
        refine XS.lloadN X76.here hx rfl (hb hby d6_36) rfl ?_
        show Steps p.tables e below (T76.setTop (mkF m 37 #[.val (.ref o0), .val (.int p1), .val (.int (p1 - (2 : Int32))), .val (.long qm), .second] [(.long qm)])) _
        refine st79 _ ?_
        show Steps p.tables e below (T79.setTop (mkF m 40 #[.val (.ref o0), .val (.int p1), .val (.int (p1 - (2 : Int32))), .val (.long qm), .second] [(.ref r_79)])) _
        jvm_step X79.here [X79.here.top, hx, (hb hby d6_40), X79.method', Bd.returns, Value.isRef, FieldType.isReference]
        first | (intro acts; rw [hr _ acts rfl rfl rfl]) | rw [hr _ _ rfl rfl rfl]
        exact Steps.refl _
      · show Qrm6 Z o0 p1 qi qm z h0 n0 _ T79.heap _
        exact ⟨r_79, rfl, N79, KC81, P79_0, (by unfold own_wait; rw [if_pos hc74, if_pos hc78]; exact P79_1)⟩
    · obtain ⟨T84, X84, e84, st84⟩ := getF X76 hx hZ hown (host := "") (Or.inl (hw _ (List.mem_of_getElem? (i := 25) rfl))) Via.refl e76 H0 (g := (mkF m 30 #[.val (.ref o0), .val (.int p1), .val (.int (p1 - (2 : Int32))), .val (.long qm), .second] [(.ref o0)])) rfl rfl (hb hby d6_30)
      obtain ⟨_, _, ⟨T85, L85, k85, n85⟩, -, X85, ⟨Lc85, hQ85, l85, y85, z85⟩, st85⟩ := Jvm.LawKit.callS X84 hx (y := (⟨"java/time/Duration", "ofSeconds", "(J)Ljava/time/Duration;"⟩ : MethodName)) hown (mvT hZ (hw _ (List.mem_of_getElem? (i := 36) rfl))) (mvT hZ (hw _ (List.mem_of_getElem? (i := 37) rfl))) (mvT hZ (hw _ (List.mem_of_getElem? (i := 38) rfl))) (mvT hZ (hw _ (List.mem_of_getElem? (i := 39) rfl))) (by decide) (backOf (W := 0) (rm7 l Z a0 hw [] (qi <<< ((p1 - (2 : Int32)) &&& 0x3f).toInt64) z h0 n0 (by omega) H2 H3 H4) hZ (hw _ (List.mem_of_getElem? (i := 39) rfl)) (hw _ (List.mem_of_getElem? (i := 38) rfl)) (by decide) (by decide)) (g := (mkF m 37 #[.val (.ref o0), .val (.int p1), .val (.int (p1 - (2 : Int32))), .val (.long (qi <<< ((p1 - (2 : Int32)) &&& 0x3f).toInt64)), .second] [(.long (qi <<< ((p1 - (2 : Int32)) &&& 0x3f).toInt64))])) rfl (by rw [hml]; rfl) (argsL := [(.long (qi <<< ((p1 - (2 : Int32)) &&& 0x3f).toInt64))]) (rest := []) (lenOf pd_3 rfl) rfl (by show 2 * 0 + _ ≤ _; exact Nat.le_of_eq rfl) (hb hby d6_37) (fun _ _ => ⟨rfl, e84, (by decide : 0 + 1 ≤ _), (by decide : 0 + 2 ≤ _)⟩)
      dsimp only [Pt.U, Pt.locs, Pt.cells, Pt.slots] at X85 l85 y85 z85 st85 hQ85
      subst l85 y85 z85
      obtain ⟨r_85, rfl, N85q, K85, P85_0, P85_1⟩ := hQ85
      have N85 := Fr.app N0 N85q
      have z86 := K85.1
      have KC87 : Keep h0 T85.heap [] := KC0.trans K85 all0
      have z88 : @LT.lt Nat _ r_85 (Array.size T85.heap) := P85_0.lt
      have z89 : @LT.lt Nat _ r_85 (Array.size T85.heap) := P85_1.lt
      obtain ⟨fs, hr, hrun, hended, hW, hsame⟩ := X85.leave (v := some (.ref r_85)) (fun h => by rw [Bd.returns] at h; cases h)
      refine ⟨_, _, pre77 _ ?_, hrun, hended, _, _, rfl, ?_, ⟨_, rfl⟩, hW, hsame.mono (by decide) (by decide)⟩
      · show Steps p.tables e below (T76.setTop (mkF m 26 #[.val (.ref o0), .val (.int p1), .val (.int (p1 - (2 : Int32))), .val (.long qm), .second] [(.int (lcmpW qi (qm >>> ((p1 - (2 : Int32)) &&& 0x3f).toInt64)))])) _
        refine XS.ifNo X76.here hx rfl (hb hby d6_26) rfl ((if0 _ _).trans (flt ((fun k => hc78 ((lw_gt qi (qm >>> ((p1 - (2 : Int32)) &&& 0x3f).toInt64)).mp k)) : ¬ ((0 : Int32) < (lcmpW qi (qm >>> ((p1 - (2 : Int32)) &&& 0x3f).toInt64))))).2.2.1) ?_
        show Steps p.tables e below (T76.setTop (mkF m 29 #[.val (.ref o0), .val (.int p1), .val (.int (p1 - (2 : Int32))), .val (.long qm), .second] [])) _
        refine XS.aloadN X76.here hx rfl (hb hby d6_29) rfl rfl ?_
        show Steps p.tables e below (T76.setTop (mkF m 30 #[.val (.ref o0), .val (.int p1), .val (.int (p1 - (2 : Int32))), .val (.long qm), .second] [(.ref o0)])) _
        refine st84 _ ?_
        show Steps p.tables e below (T84.setTop (mkF m 33 #[.val (.ref o0), .val (.int p1), .val (.int (p1 - (2 : Int32))), .val (.long qm), .second] [(.long qi)])) _
        refine XS.iloadN X84.here hx rfl (hb hby d6_33) rfl ?_
        show Steps p.tables e below (T84.setTop (mkF m 34 #[.val (.ref o0), .val (.int p1), .val (.int (p1 - (2 : Int32))), .val (.long qm), .second] [(.int (p1 - (2 : Int32))), (.long qi)])) _
        refine XS.lshl X84.here hx rfl (hb hby d6_34) rfl ?_
        show Steps p.tables e below (T84.setTop (mkF m 35 #[.val (.ref o0), .val (.int p1), .val (.int (p1 - (2 : Int32))), .val (.long qm), .second] [(.long (qi <<< ((p1 - (2 : Int32)) &&& 0x3f).toInt64))])) _
        refine XS.lstoreN X84.here hx rfl (hb hby d6_35) rfl (l' := #[.val (.ref o0), .val (.int p1), .val (.int (p1 - (2 : Int32))), .val (.long (qi <<< ((p1 - (2 : Int32)) &&& 0x3f).toInt64)), .second]) rfl ?_
        show Steps p.tables e below (T84.setTop (mkF m 36 #[.val (.ref o0), .val (.int p1), .val (.int (p1 - (2 : Int32))), .val (.long (qi <<< ((p1 - (2 : Int32)) &&& 0x3f).toInt64)), .second] [])) _
        refine XS.lloadN X84.here hx rfl (hb hby d6_36) rfl ?_
        show Steps p.tables e below (T84.setTop (mkF m 37 #[.val (.ref o0), .val (.int p1), .val (.int (p1 - (2 : Int32))), .val (.long (qi <<< ((p1 - (2 : Int32)) &&& 0x3f).toInt64)), .second] [(.long (qi <<< ((p1 - (2 : Int32)) &&& 0x3f).toInt64))])) _
        refine st85 _ ?_
        show Steps p.tables e below (T85.setTop (mkF m 40 #[.val (.ref o0), .val (.int p1), .val (.int (p1 - (2 : Int32))), .val (.long (qi <<< ((p1 - (2 : Int32)) &&& 0x3f).toInt64)), .second] [(.ref r_85)])) _
        jvm_step X85.here [X85.here.top, hx, (hb hby d6_40), X85.method', Bd.returns, Value.isRef, FieldType.isReference]
        first | (intro acts; rw [hr _ acts rfl rfl rfl]) | rw [hr _ _ rfl rfl rfl]
        exact Steps.refl _
      · show Qrm6 Z o0 p1 qi qm z h0 n0 _ T85.heap _
        exact ⟨r_85, rfl, N85, KC87, P85_0, (by unfold own_wait; rw [if_pos hc74, if_neg hc78]; exact P85_1)⟩
  · obtain ⟨_, _, ⟨T90, L90, k90, n90⟩, -, X90, ⟨Lc90, hQ90, l90, y90, z90⟩, st90⟩ := Jvm.LawKit.callS X72 hx (y := (⟨"java/time/Duration", "ofSeconds", "(J)Ljava/time/Duration;"⟩ : MethodName)) hown (mvT hZ (hw _ (List.mem_of_getElem? (i := 36) rfl))) (mvT hZ (hw _ (List.mem_of_getElem? (i := 37) rfl))) (mvT hZ (hw _ (List.mem_of_getElem? (i := 38) rfl))) (mvT hZ (hw _ (List.mem_of_getElem? (i := 39) rfl))) (by decide) (backOf (W := 0) (rm7 l Z a0 hw [] qm z h0 n0 (by omega) H2 H3 H4) hZ (hw _ (List.mem_of_getElem? (i := 39) rfl)) (hw _ (List.mem_of_getElem? (i := 38) rfl)) (by decide) (by decide)) (g := (mkF m 37 #[.val (.ref o0), .val (.int p1), .val (.int (p1 - (2 : Int32))), .val (.long qm), .second] [(.long qm)])) rfl (by rw [hml]; rfl) (argsL := [(.long qm)]) (rest := []) (lenOf pd_3 rfl) rfl (by show 2 * 0 + _ ≤ _; exact Nat.le_of_eq rfl) (hb hby d6_37) (fun _ _ => ⟨rfl, e72, (by decide : 0 + 1 ≤ _), (by decide : 0 + 2 ≤ _)⟩)
    dsimp only [Pt.U, Pt.locs, Pt.cells, Pt.slots] at X90 l90 y90 z90 st90 hQ90
    subst l90 y90 z90
    obtain ⟨r_90, rfl, N90q, K90, P90_0, P90_1⟩ := hQ90
    have N90 := Fr.app N0 N90q
    have z91 := K90.1
    have KC92 : Keep h0 T90.heap [] := KC0.trans K90 all0
    have z93 : @LT.lt Nat _ r_90 (Array.size T90.heap) := P90_0.lt
    have z94 : @LT.lt Nat _ r_90 (Array.size T90.heap) := P90_1.lt
    obtain ⟨fs, hr, hrun, hended, hW, hsame⟩ := X90.leave (v := some (.ref r_90)) (fun h => by rw [Bd.returns] at h; cases h)
    refine ⟨_, _, pre73 _ ?_, hrun, hended, _, _, rfl, ?_, ⟨_, rfl⟩, hW, hsame.mono (by decide) (by decide)⟩
    · show Steps p.tables e below (T72.setTop (mkF m 12 #[.val (.ref o0), .val (.int p1), .val (.int (p1 - (2 : Int32))), .val (.long qm), .second] [(.int (64 : Int32)), (.int (p1 - (2 : Int32)))])) _
      refine XS.icmpYes X72.here hx rfl (pc0 := 12) (pc' := 36) rfl (hb hby d6_12) rfl (flt (hc74 : ¬ ((p1 - (2 : Int32)) < (64 : Int32)))).2.1 (by decide) (by decide) ?_
      show Steps p.tables e below (T72.setTop (mkF m 36 #[.val (.ref o0), .val (.int p1), .val (.int (p1 - (2 : Int32))), .val (.long qm), .second] [])) _
      refine XS.lloadN X72.here hx rfl (hb hby d6_36) rfl ?_
      show Steps p.tables e below (T72.setTop (mkF m 37 #[.val (.ref o0), .val (.int p1), .val (.int (p1 - (2 : Int32))), .val (.long qm), .second] [(.long qm)])) _
      refine st90 _ ?_
      show Steps p.tables e below (T90.setTop (mkF m 40 #[.val (.ref o0), .val (.int p1), .val (.int (p1 - (2 : Int32))), .val (.long qm), .second] [(.ref r_90)])) _
      jvm_step X90.here [X90.here.top, hx, (hb hby d6_40), X90.method', Bd.returns, Value.isRef, FieldType.isReference]
      first | (intro acts; rw [hr _ acts rfl rfl rfl]) | rw [hr _ _ rfl rfl rfl]
      exact Steps.refl _
    · show Qrm6 Z o0 p1 qi qm z h0 n0 _ T90.heap _
      exact ⟨r_90, rfl, N90, KC92, P90_0, (by unfold own_wait; rw [if_neg hc74]; exact P90_1)⟩
theorem d10_0 : decode jdk_2316_method_23_code 0 = .ok (.aload_n 0, 1) := by decide +kernel
theorem d10_1 : decode jdk_2316_method_23_code 1 = .ok (.getfield 221, 3) := by decide +kernel
theorem d10_4 : decode jdk_2316_method_23_code 4 = .ok (.lreturn, 1) := by decide +kernel
theorem ef_rm10 (m : MethodId) (o0 : Addr) : entryFrame m #[(.ref o0)] 1 = mkF m 0 #[.val (.ref o0)] [] := by first | (simp [entryFrame, mkF, argsToLocals, Value.category]; done) | rfl
def Qrm10 (Z : State) (o0 : Addr) (qs : Int64) (h0 : Heap) (n0 : Nat) (v : Option Value) (h : Heap) (L : List Loc) : Prop := v = some (.long qs) ∧ Fr n0 L ∧ h = h0
set_option maxRecDepth 65536 in
set_option maxHeartbeats 40000000 in
theorem rm10 (l : Launch) (Z : State) (a0 : Array Value) (hw : ∀ d ∈ tables_1, d.before a0 Z = true) (ws : List Jvm.Cond) (o0 : Addr) (qs : Int64) (h0 : Heap) (n0 : Nat) (Z0 : n0 ≤ h0.size) (H0 : Fld Z h0 o0 "java/time/Duration" "seconds" "J" (.long qs)) :
    MetFree l (⟨"java/time/Duration", "getSeconds", "()J"⟩ : MethodName) (head1 (Jvm.Cond.code (⟨"java/time/Duration", "getSeconds", "()J"⟩ : MethodName) jdk_2316_method_23_code 1 (some .long) :: ws) ({ frames := 0, cells := 0, slots := 0, locals := 0 } : Room)) (fun a U => a = #[(.ref o0)] ∧ Z.Warmed39 U.vm ∧ U.heap = h0) (fun _ _ _ _ _ => True) (fun _ U o U' => ∃ v L, o = .returned v ∧ Qrm10 Z o0 qs h0 n0 v U'.heap L ∧ FrameEnd U o U' L ({ frames := 0, cells := 0, slots := 0, locals := 0 } : Room).cells ({ frames := 0, cells := 0, slots := 0, locals := 0 } : Room).slots) := by
  refine MetFree.of_bodySF (plainFor_of_name pn_9) hisR ?_
  intro p e s m args below meth c s₁ Bd hml0 hP hK
  obtain ⟨rfl, hZ, hh⟩ := hP
  have hx := Bd.exec
  have hby := Bd.bytes
  have hml : c.maxLocals = 1 := hml0
  have hown : s.vm.findClass "java/time/Duration" = some m.cls := findClass_of_methodNamed Bd.named
  have hnm := (name_of_methodNamed Bd.named Bd.method).1
  have X0 : Stand p l e ({ frames := 0, cells := 0, slots := 0, locals := 0 } : Room) s m #[(.ref o0)] below meth c s₁ [] 0 0 := Stand.of_body Bd
  have e0 : s₁.heap = h0 := by rw [← hh, Bd.state]; rfl
  have N0 := Fr.nil n0
  have pre0 : ∀ t, Steps p.tables e below (s₁.setTop (mkF m 0 #[.val (.ref o0)] [])) t → Steps p.tables e below (s₁.setTop (entryFrame m #[(.ref o0)] 1)) t := fun t k => castTop (ef_rm10 m o0) k
  have z95 : @LT.lt Nat _ o0 (Array.size h0) := H0.lt
  have KC0 : Keep h0 h0 [] := Keep.refl _ _
  obtain ⟨T96, X96, e96, st96⟩ := getF X0 hx hZ hown (host := "") (Or.inl (hw _ (List.mem_of_getElem? (i := 50) rfl))) Via.refl e0 H0 (g := (mkF m 1 #[.val (.ref o0)] [(.ref o0)])) rfl rfl (hb hby d10_1)
  obtain ⟨fs, hr, hrun, hended, hW, hsame⟩ := X96.leave (v := some (.long qs)) (fun h => by rw [Bd.returns] at h; cases h)
  refine ⟨_, _, pre0 _ ?_, hrun, hended, _, _, rfl, ?_, ⟨_, rfl⟩, hW, hsame.mono (by decide) (by decide)⟩
  · show Steps p.tables e below (s₁.setTop (mkF m 0 #[.val (.ref o0)] [])) _
    refine XS.aloadN X0.here hx rfl (hb hby d10_0) rfl rfl ?_
    show Steps p.tables e below (s₁.setTop (mkF m 1 #[.val (.ref o0)] [(.ref o0)])) _
    refine st96 _ ?_
    show Steps p.tables e below (T96.setTop (mkF m 4 #[.val (.ref o0)] [(.long qs)])) _
    exact X96.lreturnOut hx Bd.returns (hb hby d10_4) hr
  · show Qrm10 Z o0 qs h0 n0 _ T96.heap _
    rw [e96]
    exact ⟨rfl, N0, rfl⟩
theorem d11_0 : decode method_3_code 0 = .ok (.iload 4, 2) := by decide +kernel
theorem d11_2 : decode method_3_code 2 = .ok (.bipush 63, 2) := by decide +kernel
theorem d11_4 : decode method_3_code 4 = .ok (.if_icmp .lt 5, 3) := by decide +kernel
theorem d11_9 : decode method_3_code 9 = .ok (.lconst 1, 1) := by decide +kernel
theorem d11_10 : decode method_3_code 10 = .ok (.iload 4, 2) := by decide +kernel
theorem d11_12 : decode method_3_code 12 = .ok (.lshl, 1) := by decide +kernel
theorem d11_13 : decode method_3_code 13 = .ok (.lstore 5, 2) := by decide +kernel
theorem d11_15 : decode method_3_code 15 = .ok (.lload_n 0, 1) := by decide +kernel
theorem d11_16 : decode method_3_code 16 = .ok (.lload_n 2, 1) := by decide +kernel
theorem d11_17 : decode method_3_code 17 = .ok (.lload 5, 2) := by decide +kernel
theorem d11_19 : decode method_3_code 19 = .ok (.ldiv, 1) := by decide +kernel
theorem d11_20 : decode method_3_code 20 = .ok (.lcmp, 1) := by decide +kernel
theorem d11_21 : decode method_3_code 21 = .ok (.ifCond .gt 8, 3) := by decide +kernel
theorem d11_29 : decode method_3_code 29 = .ok (.lload_n 2, 1) := by decide +kernel
theorem d11_30 : decode method_3_code 30 = .ok (.lreturn, 1) := by decide +kernel
theorem d11_24 : decode method_3_code 24 = .ok (.lload_n 0, 1) := by decide +kernel
theorem d11_25 : decode method_3_code 25 = .ok (.lload 5, 2) := by decide +kernel
theorem d11_27 : decode method_3_code 27 = .ok (.lmul, 1) := by decide +kernel
theorem d11_28 : decode method_3_code 28 = .ok (.lreturn, 1) := by decide +kernel
theorem d11_7 : decode method_3_code 7 = .ok (.lload_n 2, 1) := by decide +kernel
theorem d11_8 : decode method_3_code 8 = .ok (.lreturn, 1) := by decide +kernel
theorem pn_11 : plainName "com/example/vervet/vervet/DeliveryPolicyWaitBeforePinLaw" = true := by first | (simp [plainName, overriddenIn]; done) | decide +kernel
theorem ef_rm11 (m : MethodId) (q0 : Int64) (q1 : Int64) (p2 : Int32) : entryFrame m #[(.long q0), (.long q1), (.int p2)] 7 = mkF m 0 #[.val (.long q0), .second, .val (.long q1), .second, .val (.int p2), .unset, .unset] [] := by first | (simp [entryFrame, mkF, argsToLocals, Value.category]; done) | rfl
def Qrm11 (Z : State) (q0 : Int64) (q1 : Int64) (p2 : Int32) (h0 : Heap) (n0 : Nat) (v : Option Value) (h : Heap) (L : List Loc) : Prop := v = some (.long (own_exp q0 q1 p2)) ∧ Fr n0 L ∧ h = h0
set_option maxRecDepth 65536 in
set_option maxHeartbeats 40000000 in
theorem rm11 (l : Launch) (Z : State) (a0 : Array Value) (hw : ∀ d ∈ tables_1, d.before a0 Z = true) (ws : List Jvm.Cond) (q0 : Int64) (q1 : Int64) (p2 : Int32) (h0 : Heap) (n0 : Nat) (Z0 : n0 ≤ h0.size) :
    MetFree l (⟨"com/example/vervet/vervet/DeliveryPolicyWaitBeforePinLaw", "expected", "(JJI)J"⟩ : MethodName) (head1 (Jvm.Cond.code (⟨"com/example/vervet/vervet/DeliveryPolicyWaitBeforePinLaw", "expected", "(JJI)J"⟩ : MethodName) method_3_code 7 (some .long) :: ws) ({ frames := 0, cells := 0, slots := 0, locals := 0 } : Room)) (fun a U => a = #[(.long q0), (.long q1), (.int p2)] ∧ Z.Warmed39 U.vm ∧ U.heap = h0) (fun _ _ _ _ _ => True) (fun _ U o U' => ∃ v L, o = .returned v ∧ Qrm11 Z q0 q1 p2 h0 n0 v U'.heap L ∧ FrameEnd U o U' L ({ frames := 0, cells := 0, slots := 0, locals := 0 } : Room).cells ({ frames := 0, cells := 0, slots := 0, locals := 0 } : Room).slots) := by
  refine MetFree.of_bodySF (plainFor_of_name pn_11) hisR ?_
  intro p e s m args below meth c s₁ Bd hml0 hP hK
  obtain ⟨rfl, hZ, hh⟩ := hP
  have hx := Bd.exec
  have hby := Bd.bytes
  have hml : c.maxLocals = 7 := hml0
  have hown : s.vm.findClass "com/example/vervet/vervet/DeliveryPolicyWaitBeforePinLaw" = some m.cls := findClass_of_methodNamed Bd.named
  have hnm := (name_of_methodNamed Bd.named Bd.method).1
  have X0 : Stand p l e ({ frames := 0, cells := 0, slots := 0, locals := 0 } : Room) s m #[(.long q0), (.long q1), (.int p2)] below meth c s₁ [] 0 0 := Stand.of_body Bd
  have e0 : s₁.heap = h0 := by rw [← hh, Bd.state]; rfl
  have N0 := Fr.nil n0
  have pre0 : ∀ t, Steps p.tables e below (s₁.setTop (mkF m 0 #[.val (.long q0), .second, .val (.long q1), .second, .val (.int p2), .unset, .unset] [])) t → Steps p.tables e below (s₁.setTop (entryFrame m #[(.long q0), (.long q1), (.int p2)] 7)) t := fun t k => castTop (ef_rm11 m q0 q1 p2) k
  have KC0 : Keep h0 h0 [] := Keep.refl _ _
  have pre97 : ∀ t, Steps p.tables e below (s₁.setTop (mkF m 4 #[.val (.long q0), .second, .val (.long q1), .second, .val (.int p2), .unset, .unset] [(.int (63 : Int32)), (.int p2)])) t → Steps p.tables e below (s₁.setTop (entryFrame m #[(.long q0), (.long q1), (.int p2)] 7)) t := fun t k => by
    refine pre0 _ ?_
    show Steps p.tables e below (s₁.setTop (mkF m 0 #[.val (.long q0), .second, .val (.long q1), .second, .val (.int p2), .unset, .unset] [])) _
    refine XS.iload X0.here hx rfl (hb hby d11_0) rfl ?_
    show Steps p.tables e below (s₁.setTop (mkF m 2 #[.val (.long q0), .second, .val (.long q1), .second, .val (.int p2), .unset, .unset] [(.int p2)])) _
    refine XS.bipush X0.here hx rfl (hb hby d11_2) ?_
    exact k
  by_cases hc98 : p2 < (63 : Int32)
  · have pre99 : ∀ t, Steps p.tables e below (s₁.setTop (mkF m 21 #[.val (.long q0), .second, .val (.long q1), .second, .val (.int p2), .val (.long ((1 : Int64) <<< (p2 &&& 0x3f).toInt64)), .second] [(.int (lcmpW q0 (q1 / ((1 : Int64) <<< (p2 &&& 0x3f).toInt64))))])) t → Steps p.tables e below (s₁.setTop (entryFrame m #[(.long q0), (.long q1), (.int p2)] 7)) t := fun t k => by
      refine pre97 _ ?_
      show Steps p.tables e below (s₁.setTop (mkF m 4 #[.val (.long q0), .second, .val (.long q1), .second, .val (.int p2), .unset, .unset] [(.int (63 : Int32)), (.int p2)])) _
      refine XS.icmpYes X0.here hx rfl (pc0 := 4) (pc' := 9) rfl (hb hby d11_4) rfl (tlt (hc98 : p2 < (63 : Int32))).1 (by decide) (by decide) ?_
      show Steps p.tables e below (s₁.setTop (mkF m 9 #[.val (.long q0), .second, .val (.long q1), .second, .val (.int p2), .unset, .unset] [])) _
      refine XS.lconst X0.here hx rfl (hb hby d11_9) ?_
      show Steps p.tables e below (s₁.setTop (mkF m 10 #[.val (.long q0), .second, .val (.long q1), .second, .val (.int p2), .unset, .unset] [(.long (1 : Int64))])) _
      refine XS.iload X0.here hx rfl (hb hby d11_10) rfl ?_
      show Steps p.tables e below (s₁.setTop (mkF m 12 #[.val (.long q0), .second, .val (.long q1), .second, .val (.int p2), .unset, .unset] [(.int p2), (.long (1 : Int64))])) _
      refine XS.lshl X0.here hx rfl (hb hby d11_12) rfl ?_
      show Steps p.tables e below (s₁.setTop (mkF m 13 #[.val (.long q0), .second, .val (.long q1), .second, .val (.int p2), .unset, .unset] [(.long ((1 : Int64) <<< (p2 &&& 0x3f).toInt64))])) _
      refine XS.lstore X0.here hx rfl (hb hby d11_13) rfl (l' := #[.val (.long q0), .second, .val (.long q1), .second, .val (.int p2), .val (.long ((1 : Int64) <<< (p2 &&& 0x3f).toInt64)), .second]) rfl ?_
      show Steps p.tables e below (s₁.setTop (mkF m 15 #[.val (.long q0), .second, .val (.long q1), .second, .val (.int p2), .val (.long ((1 : Int64) <<< (p2 &&& 0x3f).toInt64)), .second] [])) _
      refine XS.lloadN X0.here hx rfl (hb hby d11_15) rfl ?_
      show Steps p.tables e below (s₁.setTop (mkF m 16 #[.val (.long q0), .second, .val (.long q1), .second, .val (.int p2), .val (.long ((1 : Int64) <<< (p2 &&& 0x3f).toInt64)), .second] [(.long q0)])) _
      refine XS.lloadN X0.here hx rfl (hb hby d11_16) rfl ?_
      show Steps p.tables e below (s₁.setTop (mkF m 17 #[.val (.long q0), .second, .val (.long q1), .second, .val (.int p2), .val (.long ((1 : Int64) <<< (p2 &&& 0x3f).toInt64)), .second] [(.long q1), (.long q0)])) _
      refine XS.lload X0.here hx rfl (hb hby d11_17) rfl ?_
      show Steps p.tables e below (s₁.setTop (mkF m 19 #[.val (.long q0), .second, .val (.long q1), .second, .val (.int p2), .val (.long ((1 : Int64) <<< (p2 &&& 0x3f).toInt64)), .second] [(.long ((1 : Int64) <<< (p2 &&& 0x3f).toInt64)), (.long q1), (.long q0)])) _
      refine XS.ldiv X0.here hx rfl (hb hby d11_19) rfl (own_pow_ne p2) ?_
      show Steps p.tables e below (s₁.setTop (mkF m 20 #[.val (.long q0), .second, .val (.long q1), .second, .val (.int p2), .val (.long ((1 : Int64) <<< (p2 &&& 0x3f).toInt64)), .second] [(.long (q1 / ((1 : Int64) <<< (p2 &&& 0x3f).toInt64))), (.long q0)])) _
      refine XS.lcmp X0.here hx rfl (hb hby d11_20) rfl ?_
      exact k
    by_cases hc100 : (q1 / ((1 : Int64) <<< (p2 &&& 0x3f).toInt64)) < q0
    · obtain ⟨fs, hr, hrun, hended, hW, hsame⟩ := X0.leave (v := some (.long q1)) (fun h => by rw [Bd.returns] at h; cases h)
      refine ⟨_, _, pre99 _ ?_, hrun, hended, _, _, rfl, ?_, ⟨_, rfl⟩, hW, hsame.mono (by decide) (by decide)⟩
      · show Steps p.tables e below (s₁.setTop (mkF m 21 #[.val (.long q0), .second, .val (.long q1), .second, .val (.int p2), .val (.long ((1 : Int64) <<< (p2 &&& 0x3f).toInt64)), .second] [(.int (lcmpW q0 (q1 / ((1 : Int64) <<< (p2 &&& 0x3f).toInt64))))])) _
        refine XS.ifYes X0.here hx rfl (pc0 := 21) (pc' := 29) rfl (hb hby d11_21) rfl ((if0 _ _).trans (tlt (((lw_gt q0 (q1 / ((1 : Int64) <<< (p2 &&& 0x3f).toInt64))).mpr hc100) : (0 : Int32) < (lcmpW q0 (q1 / ((1 : Int64) <<< (p2 &&& 0x3f).toInt64))))).2.2.1) (by decide) (by decide) ?_
        show Steps p.tables e below (s₁.setTop (mkF m 29 #[.val (.long q0), .second, .val (.long q1), .second, .val (.int p2), .val (.long ((1 : Int64) <<< (p2 &&& 0x3f).toInt64)), .second] [])) _
        refine XS.lloadN X0.here hx rfl (hb hby d11_29) rfl ?_
        show Steps p.tables e below (s₁.setTop (mkF m 30 #[.val (.long q0), .second, .val (.long q1), .second, .val (.int p2), .val (.long ((1 : Int64) <<< (p2 &&& 0x3f).toInt64)), .second] [(.long q1)])) _
        exact X0.lreturnOut hx Bd.returns (hb hby d11_30) hr
      · show Qrm11 Z q0 q1 p2 h0 n0 _ s₁.heap _
        rw [e0]
        exact ⟨(by unfold own_exp; rw [if_pos hc98, if_pos hc100]), N0, rfl⟩
    · obtain ⟨fs, hr, hrun, hended, hW, hsame⟩ := X0.leave (v := some (.long (q0 * ((1 : Int64) <<< (p2 &&& 0x3f).toInt64)))) (fun h => by rw [Bd.returns] at h; cases h)
      refine ⟨_, _, pre99 _ ?_, hrun, hended, _, _, rfl, ?_, ⟨_, rfl⟩, hW, hsame.mono (by decide) (by decide)⟩
      · show Steps p.tables e below (s₁.setTop (mkF m 21 #[.val (.long q0), .second, .val (.long q1), .second, .val (.int p2), .val (.long ((1 : Int64) <<< (p2 &&& 0x3f).toInt64)), .second] [(.int (lcmpW q0 (q1 / ((1 : Int64) <<< (p2 &&& 0x3f).toInt64))))])) _
        refine XS.ifNo X0.here hx rfl (hb hby d11_21) rfl ((if0 _ _).trans (flt ((fun k => hc100 ((lw_gt q0 (q1 / ((1 : Int64) <<< (p2 &&& 0x3f).toInt64))).mp k)) : ¬ ((0 : Int32) < (lcmpW q0 (q1 / ((1 : Int64) <<< (p2 &&& 0x3f).toInt64)))))).2.2.1) ?_
        show Steps p.tables e below (s₁.setTop (mkF m 24 #[.val (.long q0), .second, .val (.long q1), .second, .val (.int p2), .val (.long ((1 : Int64) <<< (p2 &&& 0x3f).toInt64)), .second] [])) _
        refine XS.lloadN X0.here hx rfl (hb hby d11_24) rfl ?_
        show Steps p.tables e below (s₁.setTop (mkF m 25 #[.val (.long q0), .second, .val (.long q1), .second, .val (.int p2), .val (.long ((1 : Int64) <<< (p2 &&& 0x3f).toInt64)), .second] [(.long q0)])) _
        refine XS.lload X0.here hx rfl (hb hby d11_25) rfl ?_
        show Steps p.tables e below (s₁.setTop (mkF m 27 #[.val (.long q0), .second, .val (.long q1), .second, .val (.int p2), .val (.long ((1 : Int64) <<< (p2 &&& 0x3f).toInt64)), .second] [(.long ((1 : Int64) <<< (p2 &&& 0x3f).toInt64)), (.long q0)])) _
        refine XS.lmul X0.here hx rfl (hb hby d11_27) rfl ?_
        show Steps p.tables e below (s₁.setTop (mkF m 28 #[.val (.long q0), .second, .val (.long q1), .second, .val (.int p2), .val (.long ((1 : Int64) <<< (p2 &&& 0x3f).toInt64)), .second] [(.long (q0 * ((1 : Int64) <<< (p2 &&& 0x3f).toInt64)))])) _
        exact X0.lreturnOut hx Bd.returns (hb hby d11_28) hr
      · show Qrm11 Z q0 q1 p2 h0 n0 _ s₁.heap _
        rw [e0]
        exact ⟨(by unfold own_exp; rw [if_pos hc98, if_neg hc100]), N0, rfl⟩
  · obtain ⟨fs, hr, hrun, hended, hW, hsame⟩ := X0.leave (v := some (.long q1)) (fun h => by rw [Bd.returns] at h; cases h)
    refine ⟨_, _, pre97 _ ?_, hrun, hended, _, _, rfl, ?_, ⟨_, rfl⟩, hW, hsame.mono (by decide) (by decide)⟩
    · show Steps p.tables e below (s₁.setTop (mkF m 4 #[.val (.long q0), .second, .val (.long q1), .second, .val (.int p2), .unset, .unset] [(.int (63 : Int32)), (.int p2)])) _
      refine XS.icmpNo X0.here hx rfl (hb hby d11_4) rfl (flt (hc98 : ¬ (p2 < (63 : Int32)))).1 ?_
      show Steps p.tables e below (s₁.setTop (mkF m 7 #[.val (.long q0), .second, .val (.long q1), .second, .val (.int p2), .unset, .unset] [])) _
      refine XS.lloadN X0.here hx rfl (hb hby d11_7) rfl ?_
      show Steps p.tables e below (s₁.setTop (mkF m 8 #[.val (.long q0), .second, .val (.long q1), .second, .val (.int p2), .unset, .unset] [(.long q1)])) _
      exact X0.lreturnOut hx Bd.returns (hb hby d11_8) hr
    · show Qrm11 Z q0 q1 p2 h0 n0 _ s₁.heap _
      rw [e0]
      exact ⟨(by unfold own_exp; rw [if_neg hc98]), N0, rfl⟩
theorem pd_4 : parseMethodDescriptor "(JJ)J" = some ⟨[.long, .long], some .long⟩ := by decide +kernel
theorem pd_5 : parseMethodDescriptor "(II)I" = some ⟨[.int, .int], some .int⟩ := by decide +kernel
theorem pd_6 : parseMethodDescriptor "(JJJI)V" = some ⟨[.long, .long, .long, .int], none⟩ := by decide +kernel
theorem pd_7 : parseMethodDescriptor "(I)Ljava/time/Duration;" = some ⟨[.int], some (.object "java/time/Duration")⟩ := by decide +kernel
theorem pd_8 : parseMethodDescriptor "()J" = some ⟨[], some .long⟩ := by decide +kernel
theorem pd_9 : parseMethodDescriptor "(JJI)J" = some ⟨[.long, .long, .int], some .long⟩ := by decide +kernel
theorem ef_rm0 (m : MethodId) (q0 : Int64) (q1 : Int64) (q2 : Int64) (p3 : Int32) (p4 : Int32) : entryFrame m #[(.long q0), (.long q1), (.long q2), (.int p3), (.int p4)] maxLocals = mkF m 0 #[.val (.long q0), .second, .val (.long q1), .second, .val (.long q2), .second, .val (.int p3), .val (.int p4), .unset, .unset, .unset, .unset, .unset, .unset, .unset, .unset] [] := by first | (simp [entryFrame, mkF, argsToLocals, Value.category, maxLocals]; done) | rfl
def Qrm0 (Z : State) (q0 : Int64) (q1 : Int64) (q2 : Int64) (p3 : Int32) (p4 : Int32) (z : Addr) (h0 : Heap) (n0 : Nat) (v : Option Value) (h : Heap) (L : List Loc) : Prop := v = some (.int (1 : Int32)) ∧ Fr n0 L ∧ Keep h0 h []
set_option maxRecDepth 65536 in
set_option maxHeartbeats 40000000 in
theorem rm0 (l : Launch) (Z : State) (a0 : Array Value) (hw : ∀ d ∈ tables_1, d.before a0 Z = true) (ws : List Jvm.Cond) (q0 : Int64) (q1 : Int64) (q2 : Int64) (p3 : Int32) (p4 : Int32) (z : Addr) (h0 : Heap) (n0 : Nat) (Z0 : n0 ≤ h0.size) (H0 : Sta Z h0 "java/time/Duration" "ZERO" "Ljava/time/Duration;" (.ref z)) (H1 : Exa Z h0 z "java/time/Duration") (H2 : Fld Z h0 z "java/time/Duration" "seconds" "J" (.long (0 : Int64))) :
    MetFree l x (head1 (Jvm.Cond.code x code maxLocals ret :: ws) room_1) (fun a U => a = #[(.long q0), (.long q1), (.long q2), (.int p3), (.int p4)] ∧ Z.Warmed39 U.vm ∧ U.heap = h0) (fun _ _ _ _ _ => True) (fun _ U o U' => ∃ v L, o = .returned v ∧ Qrm0 Z q0 q1 q2 p3 p4 z h0 n0 v U'.heap L ∧ FrameEnd U o U' L room_1.cells room_1.slots) := by
  refine MetFree.of_bodySF (plainFor_of_name pn_11) hisR ?_
  intro p e s m args below meth c s₁ Bd hml0 hP hK
  obtain ⟨rfl, hZ, hh⟩ := hP
  have hx := Bd.exec
  have hby := Bd.bytes
  have hml : c.maxLocals = 16 := hml0
  have hown : s.vm.findClass "com/example/vervet/vervet/DeliveryPolicyWaitBeforePinLaw" = some m.cls := findClass_of_methodNamed Bd.named
  have hnm := (name_of_methodNamed Bd.named Bd.method).1
  have X0 : Stand p l e room_1 s m #[(.long q0), (.long q1), (.long q2), (.int p3), (.int p4)] below meth c s₁ [] 0 0 := Stand.of_body Bd
  have e0 : s₁.heap = h0 := by rw [← hh, Bd.state]; rfl
  have N0 := Fr.nil n0
  have pre0 : ∀ t, Steps p.tables e below (s₁.setTop (mkF m 0 #[.val (.long q0), .second, .val (.long q1), .second, .val (.long q2), .second, .val (.int p3), .val (.int p4), .unset, .unset, .unset, .unset, .unset, .unset, .unset, .unset] [])) t → Steps p.tables e below (s₁.setTop (entryFrame m #[(.long q0), (.long q1), (.long q2), (.int p3), (.int p4)] maxLocals)) t := fun t k => castTop (ef_rm0 m q0 q1 q2 p3 p4) k
  have z101 : @LT.lt Nat _ z (Array.size h0) := H1.lt
  have z102 : @LT.lt Nat _ z (Array.size h0) := H2.lt
  have KC0 : Keep h0 h0 [] := Keep.refl _ _
  obtain ⟨_, _, ⟨T103, L103, k103, n103⟩, -, X103, ⟨Lc103, hQ103, l103, y103, z103⟩, st103⟩ := Jvm.LawKit.callS X0 hx (y := (⟨"java/lang/Math", "max", "(JJ)J"⟩ : MethodName)) hown (mvT hZ (hw _ (List.mem_of_getElem? (i := 1) rfl))) (mvT hZ (hw _ (List.mem_of_getElem? (i := 2) rfl))) (mvT hZ (hw _ (List.mem_of_getElem? (i := 3) rfl))) (mvT hZ (hw _ (List.mem_of_getElem? (i := 4) rfl))) (by decide) (backOf (W := 0) (rm1 l Z a0 hw [] (1 : Int64) (q1 &&& (9223372036854775807 : Int64)) h0 n0 (by omega)) hZ (hw _ (List.mem_of_getElem? (i := 4) rfl)) (hw _ (List.mem_of_getElem? (i := 3) rfl)) (by decide) (by decide)) (g := (mkF m 6 #[.val (.long q0), .second, .val (.long q1), .second, .val (.long q2), .second, .val (.int p3), .val (.int p4), .unset, .unset, .unset, .unset, .unset, .unset, .unset, .unset] [(.long (q1 &&& (9223372036854775807 : Int64))), (.long (1 : Int64))])) rfl (by rw [hml]; rfl) (argsL := [(.long (1 : Int64)), (.long (q1 &&& (9223372036854775807 : Int64)))]) (rest := []) (lenOf pd_4 rfl) rfl (by show 2 * 0 + _ ≤ _; exact Nat.le_of_eq rfl) (hb hby at_6) (fun _ _ => ⟨rfl, e0, (by decide : 0 + 0 ≤ _), (by decide : 0 + 0 ≤ _)⟩)
  dsimp only [Pt.U, Pt.locs, Pt.cells, Pt.slots] at X103 l103 y103 z103 st103 hQ103
  subst l103 y103 z103
  obtain ⟨rfl, N103q, e103⟩ := hQ103
  have N103 := Fr.app N0 N103q
  obtain ⟨_, _, ⟨T104, L104, k104, n104⟩, -, X104, ⟨Lc104, hQ104, l104, y104, z104⟩, st104⟩ := Jvm.LawKit.callS X103 hx (y := (⟨"java/lang/Math", "max", "(II)I"⟩ : MethodName)) hown (mvT hZ (hw _ (List.mem_of_getElem? (i := 6) rfl))) (mvT hZ (hw _ (List.mem_of_getElem? (i := 7) rfl))) (mvT hZ (hw _ (List.mem_of_getElem? (i := 3) rfl))) (mvT hZ (hw _ (List.mem_of_getElem? (i := 8) rfl))) (by decide) (backOf (W := 0) (rm2 l Z a0 hw [] (2 : Int32) (p4 &&& (2147483647 : Int32)) h0 n0 (by omega)) hZ (hw _ (List.mem_of_getElem? (i := 8) rfl)) (hw _ (List.mem_of_getElem? (i := 3) rfl)) (by decide) (by decide)) (g := (mkF m 25 #[.val (.long q0), .second, .val (.long q1), .second, .val (.long q2), .second, .val (.int p3), .val (.int p4), .val (.long (own_maxL (1 : Int64) (q1 &&& (9223372036854775807 : Int64)))), .second, .val (.long (q2 &&& (9223372036854775807 : Int64))), .second, .unset, .unset, .unset, .unset] [(.int (p4 &&& (2147483647 : Int32))), (.int (2 : Int32))])) rfl (by rw [hml]; rfl) (argsL := [(.int (2 : Int32)), (.int (p4 &&& (2147483647 : Int32)))]) (rest := []) (lenOf pd_5 rfl) rfl (by show 2 * 0 + _ ≤ _; exact Nat.le_of_eq rfl) (hb hby at_25) (fun _ _ => ⟨rfl, e103, (by decide : 0 + 0 ≤ _), (by decide : 0 + 0 ≤ _)⟩)
  dsimp only [Pt.U, Pt.locs, Pt.cells, Pt.slots] at X104 l104 y104 z104 st104 hQ104
  subst l104 y104 z104
  obtain ⟨rfl, N104q, e104⟩ := hQ104
  have N104 := Fr.app N103 N104q
  obtain ⟨T105, h105, X105, e105, E105, A105, D105, -, st105⟩ := newO X104 hx hZ hown (hw _ (List.mem_of_getElem? (i := 9) rfl)) (hw _ (List.mem_of_getElem? (i := 10) rfl)) (hw _ (List.mem_of_getElem? (i := 11) rfl)) e104 (g := (mkF m 30 #[.val (.long q0), .second, .val (.long q1), .second, .val (.long q2), .second, .val (.int p3), .val (.int p4), .val (.long (own_maxL (1 : Int64) (q1 &&& (9223372036854775807 : Int64)))), .second, .val (.long (q2 &&& (9223372036854775807 : Int64))), .second, .val (.int (own_maxI (2 : Int32) (p4 &&& (2147483647 : Int32)))), .unset, .unset, .unset] [])) rfl (hb hby at_30) (by decide) (by decide)
  obtain ⟨b105, g105⟩ : ∃ z, z = h0.size := ⟨_, rfl⟩
  rw [← g105] at A105 D105 st105
  have z106 := E105.1
  have KC107 : Keep h0 h105 [] := KC0.ext E105
  have z108 : @LT.lt Nat _ b105 (Array.size h105) := A105.lt
  have F105_timeout : Fld Z h105 b105 "com/example/vervet/vervet/DeliveryPolicy" "timeout" "J" (.long (0 : Int64)) := D105 (Or.inr (hw _ (List.mem_of_getElem? (i := 24) rfl))) (ty := .long) (by decide)
  have F105_retryInitial : Fld Z h105 b105 "com/example/vervet/vervet/DeliveryPolicy" "retryInitial" "J" (.long (0 : Int64)) := D105 (Or.inr (hw _ (List.mem_of_getElem? (i := 26) rfl))) (ty := .long) (by decide)
  have F105_retryMaxDelay : Fld Z h105 b105 "com/example/vervet/vervet/DeliveryPolicy" "retryMaxDelay" "J" (.long (0 : Int64)) := D105 (Or.inr (hw _ (List.mem_of_getElem? (i := 28) rfl))) (ty := .long) (by decide)
  have F105_attempts : Fld Z h105 b105 "com/example/vervet/vervet/DeliveryPolicy" "attempts" "I" (.int (0 : Int32)) := D105 (Or.inr (hw _ (List.mem_of_getElem? (i := 30) rfl))) (ty := .int) (by decide)
  obtain ⟨_, _, ⟨T109, L109, k109, n109⟩, -, X109, ⟨Lc109, hQ109, l109, y109, z109⟩, st109⟩ := X105.specialBack hx (y := (⟨"com/example/vervet/vervet/DeliveryPolicy", "<init>", "(JJJI)V"⟩ : MethodName)) rfl hown (mvT hZ (hw _ (List.mem_of_getElem? (i := 12) rfl))) (mvT hZ (hw _ (List.mem_of_getElem? (i := 13) rfl))) (mvT hZ (hw _ (List.mem_of_getElem? (i := 14) rfl))) (by decide) (backOf (W := 1) (rm3 l Z a0 hw [] b105 q0 (own_maxL (1 : Int64) (q1 &&& (9223372036854775807 : Int64))) (q2 &&& (9223372036854775807 : Int64)) p3 h105 n0 (by omega) A105 F105_timeout F105_retryInitial F105_retryMaxDelay F105_attempts (by omega : n0 ≤ b105)) hZ (hw _ (List.mem_of_getElem? (i := 14) rfl)) (hw _ (List.mem_of_getElem? (i := 11) rfl)) (by decide) (by decide)) (g := (mkF m 41 #[.val (.long q0), .second, .val (.long q1), .second, .val (.long q2), .second, .val (.int p3), .val (.int p4), .val (.long (own_maxL (1 : Int64) (q1 &&& (9223372036854775807 : Int64)))), .second, .val (.long (q2 &&& (9223372036854775807 : Int64))), .second, .val (.int (own_maxI (2 : Int32) (p4 &&& (2147483647 : Int32)))), .unset, .unset, .unset] [(.int p3), (.long (q2 &&& (9223372036854775807 : Int64))), (.long (own_maxL (1 : Int64) (q1 &&& (9223372036854775807 : Int64)))), (.long q0), (.ref b105), (.ref b105)])) rfl (by rw [hml]; rfl) (Steps.refl _) (a := b105) (argsL := [(.long q0), (.long (own_maxL (1 : Int64) (q1 &&& (9223372036854775807 : Int64)))), (.long (q2 &&& (9223372036854775807 : Int64))), (.int p3)]) (rest := [(.ref b105)]) (lenOf pd_6 rfl) rfl (by show 2 * 0 + _ ≤ _; exact Nat.le_of_eq rfl) (hb hby at_41) (fun _ _ => ⟨rfl, e105, (by decide : 1 + 0 ≤ _), (by decide : 4 + 0 ≤ _)⟩)
  dsimp only [Pt.U, Pt.locs, Pt.cells, Pt.slots] at X109 l109 y109 z109 st109 hQ109
  subst l109 y109 z109
  obtain ⟨rfl, N109q, K109, P109_0, P109_1, P109_2⟩ := hQ109
  have N109 := Fr.app N104 N109q
  have z110 := K109.1
  have KC111 : Keep h0 T109.heap [] := KC107.trans K109 (allS (Or.inr (by omega)) all0)
  have z112 : @LT.lt Nat _ b105 (Array.size T109.heap) := P109_0.lt
  have z113 : @LT.lt Nat _ b105 (Array.size T109.heap) := P109_1.lt
  have z114 : @LT.lt Nat _ b105 (Array.size T109.heap) := P109_2.lt
  have Fc115 := (own_staK (H0.ext E105) K109 (allS ⟨_, A105⟩ all0))
  have Fc116 := ((H1.ext E105).keep K109)
  have Fc117 := ((H2.ext E105).keep K109 (ninS ((by omega : @Ne Nat z b105)) nin0))
  obtain ⟨cq118, kq118, qa118, qb118, qc118⟩ := isOf hZ rfl P109_0
  obtain ⟨_, _, ⟨T118, L118, k118, n118⟩, -, X118, ⟨Lc118, hQ118, l118, y118, z118⟩, st118⟩ := X109.virtualBack hx (y := (⟨"com/example/vervet/vervet/DeliveryPolicy", "waitBefore", "(I)Ljava/time/Duration;"⟩ : MethodName)) (z := (⟨"com/example/vervet/vervet/DeliveryPolicy", "waitBefore", "(I)Ljava/time/Duration;"⟩ : MethodName)) hown (mvT hZ (hw _ (List.mem_of_getElem? (i := 31) rfl))) (mvT hZ (hw _ (List.mem_of_getElem? (i := 32) rfl))) (notFace_of_selects (args := #[]) (mvT hZ (hw _ (List.mem_of_getElem? (i := 34) rfl)))) (mvT hZ (hw _ (List.mem_of_getElem? (i := 34) rfl))) (mvT hZ (hw _ (List.mem_of_getElem? (i := 33) rfl))) (by decide) (backOf (W := 0) (rm6 l Z a0 hw [] b105 (own_maxI (2 : Int32) (p4 &&& (2147483647 : Int32))) (own_maxL (1 : Int64) (q1 &&& (9223372036854775807 : Int64))) (q2 &&& (9223372036854775807 : Int64)) z T109.heap n0 (by omega) P109_1 P109_2 Fc115 Fc116 Fc117) hZ (hw _ (List.mem_of_getElem? (i := 35) rfl)) (hw _ (List.mem_of_getElem? (i := 11) rfl)) (by decide) (by decide)) qa118 qc118 (g := (mkF m 50 #[.val (.long q0), .second, .val (.long q1), .second, .val (.long q2), .second, .val (.int p3), .val (.int p4), .val (.long (own_maxL (1 : Int64) (q1 &&& (9223372036854775807 : Int64)))), .second, .val (.long (q2 &&& (9223372036854775807 : Int64))), .second, .val (.int (own_maxI (2 : Int32) (p4 &&& (2147483647 : Int32)))), .val (.ref b105), .unset, .unset] [(.int (own_maxI (2 : Int32) (p4 &&& (2147483647 : Int32)))), (.ref b105)])) rfl (by rw [hml]; rfl) (Steps.refl _) (argsL := [(.int (own_maxI (2 : Int32) (p4 &&& (2147483647 : Int32))))]) (rest := []) (lenOf pd_7 rfl) rfl (by show 2 * 0 + _ ≤ _; exact Nat.le_of_eq rfl) (hb hby at_50) (fun _ _ => ⟨rfl, rfl, (by decide : 1 + 1 ≤ _), (by decide : 4 + 2 ≤ _)⟩)
  dsimp only [Pt.U, Pt.locs, Pt.cells, Pt.slots] at X118 l118 y118 z118 st118 hQ118
  subst l118 y118 z118
  obtain ⟨r_118, rfl, N118q, K118, P118_0, P118_1⟩ := hQ118
  have N118 := Fr.app N109 N118q
  have z119 := K118.1
  have KC120 : Keep h0 T118.heap [] := KC111.trans K118 all0
  have z121 : @LT.lt Nat _ r_118 (Array.size T118.heap) := P118_0.lt
  have z122 : @LT.lt Nat _ r_118 (Array.size T118.heap) := P118_1.lt
  obtain ⟨cq123, kq123, qa123, qb123, qc123⟩ := isOf hZ rfl P118_0
  obtain ⟨_, _, ⟨T123, L123, k123, n123⟩, -, X123, ⟨Lc123, hQ123, l123, y123, z123⟩, st123⟩ := X118.virtualBack hx (y := (⟨"java/time/Duration", "getSeconds", "()J"⟩ : MethodName)) (z := (⟨"java/time/Duration", "getSeconds", "()J"⟩ : MethodName)) hown (mvT hZ (hw _ (List.mem_of_getElem? (i := 54) rfl))) (mvT hZ (hw _ (List.mem_of_getElem? (i := 55) rfl))) (notFace_of_selects (args := #[]) (mvT hZ (hw _ (List.mem_of_getElem? (i := 57) rfl)))) (mvT hZ (hw _ (List.mem_of_getElem? (i := 57) rfl))) (mvT hZ (hw _ (List.mem_of_getElem? (i := 56) rfl))) (by decide) (backOf (W := 0) (rm10 l Z a0 hw [] r_118 (own_wait (own_maxL (1 : Int64) (q1 &&& (9223372036854775807 : Int64))) (q2 &&& (9223372036854775807 : Int64)) ((own_maxI (2 : Int32) (p4 &&& (2147483647 : Int32))) - (2 : Int32))) T118.heap n0 (by omega) P118_1) hZ (hw _ (List.mem_of_getElem? (i := 58) rfl)) (hw _ (List.mem_of_getElem? (i := 38) rfl)) (by decide) (by decide)) qa123 qc123 (g := (mkF m 53 #[.val (.long q0), .second, .val (.long q1), .second, .val (.long q2), .second, .val (.int p3), .val (.int p4), .val (.long (own_maxL (1 : Int64) (q1 &&& (9223372036854775807 : Int64)))), .second, .val (.long (q2 &&& (9223372036854775807 : Int64))), .second, .val (.int (own_maxI (2 : Int32) (p4 &&& (2147483647 : Int32)))), .val (.ref b105), .unset, .unset] [(.ref r_118)])) rfl (by rw [hml]; rfl) (Steps.refl _) (argsL := []) (rest := []) (lenOf pd_8 rfl) rfl (by show 2 * 0 + _ ≤ _; exact Nat.le_of_eq rfl) (hb hby at_53) (fun _ _ => ⟨rfl, rfl, (by decide : 2 + 0 ≤ _), (by decide : 6 + 0 ≤ _)⟩)
  dsimp only [Pt.U, Pt.locs, Pt.cells, Pt.slots] at X123 l123 y123 z123 st123 hQ123
  subst l123 y123 z123
  obtain ⟨rfl, N123q, e123⟩ := hQ123
  have N123 := Fr.app N118 N123q
  obtain ⟨_, _, ⟨T124, L124, k124, n124⟩, -, X124, ⟨Lc124, hQ124, l124, y124, z124⟩, st124⟩ := Jvm.LawKit.callS X123 hx (y := (⟨"com/example/vervet/vervet/DeliveryPolicyWaitBeforePinLaw", "expected", "(JJI)J"⟩ : MethodName)) hown (mvT hZ (hw _ (List.mem_of_getElem? (i := 59) rfl))) (mvT hZ (hw _ (List.mem_of_getElem? (i := 60) rfl))) (mvT hZ (hw _ (List.mem_of_getElem? (i := 61) rfl))) (mvT hZ (hw _ (List.mem_of_getElem? (i := 62) rfl))) (by decide) (backOf (W := 2) (rm11 l Z a0 hw [] (own_maxL (1 : Int64) (q1 &&& (9223372036854775807 : Int64))) (q2 &&& (9223372036854775807 : Int64)) ((own_maxI (2 : Int32) (p4 &&& (2147483647 : Int32))) - (2 : Int32)) T118.heap n0 (by omega)) hZ (hw _ (List.mem_of_getElem? (i := 62) rfl)) (hw _ (List.mem_of_getElem? (i := 61) rfl)) (by decide) (by decide)) (g := (mkF m 68 #[.val (.long q0), .second, .val (.long q1), .second, .val (.long q2), .second, .val (.int p3), .val (.int p4), .val (.long (own_maxL (1 : Int64) (q1 &&& (9223372036854775807 : Int64)))), .second, .val (.long (q2 &&& (9223372036854775807 : Int64))), .second, .val (.int (own_maxI (2 : Int32) (p4 &&& (2147483647 : Int32)))), .val (.ref b105), .val (.long (own_wait (own_maxL (1 : Int64) (q1 &&& (9223372036854775807 : Int64))) (q2 &&& (9223372036854775807 : Int64)) ((own_maxI (2 : Int32) (p4 &&& (2147483647 : Int32))) - (2 : Int32)))), .second] [(.int ((own_maxI (2 : Int32) (p4 &&& (2147483647 : Int32))) - (2 : Int32))), (.long (q2 &&& (9223372036854775807 : Int64))), (.long (own_maxL (1 : Int64) (q1 &&& (9223372036854775807 : Int64)))), (.long (own_wait (own_maxL (1 : Int64) (q1 &&& (9223372036854775807 : Int64))) (q2 &&& (9223372036854775807 : Int64)) ((own_maxI (2 : Int32) (p4 &&& (2147483647 : Int32))) - (2 : Int32))))])) rfl (by rw [hml]; rfl) (argsL := [(.long (own_maxL (1 : Int64) (q1 &&& (9223372036854775807 : Int64)))), (.long (q2 &&& (9223372036854775807 : Int64))), (.int ((own_maxI (2 : Int32) (p4 &&& (2147483647 : Int32))) - (2 : Int32)))]) (rest := [(.long (own_wait (own_maxL (1 : Int64) (q1 &&& (9223372036854775807 : Int64))) (q2 &&& (9223372036854775807 : Int64)) ((own_maxI (2 : Int32) (p4 &&& (2147483647 : Int32))) - (2 : Int32))))]) (lenOf pd_9 rfl) rfl (by show 2 * 0 + _ ≤ _; exact Nat.le_of_eq rfl) (hb hby at_68) (fun _ _ => ⟨rfl, e123, (by decide : 2 + 0 ≤ _), (by decide : 6 + 0 ≤ _)⟩)
  dsimp only [Pt.U, Pt.locs, Pt.cells, Pt.slots] at X124 l124 y124 z124 st124 hQ124
  subst l124 y124 z124
  obtain ⟨rfl, N124q, e124⟩ := hQ124
  have N124 := Fr.app N123 N124q
  obtain ⟨fs, hr, hrun, hended, hW, hsame⟩ := X124.leave (v := some (.int (1 : Int32))) (fun h => by rw [Bd.returns] at h; cases h)
  refine ⟨_, _, pre0 _ ?_, hrun, hended, _, _, rfl, ?_, ⟨_, rfl⟩, hW, hsame.mono (by decide) (by decide)⟩
  · show Steps p.tables e below (s₁.setTop (mkF m 0 #[.val (.long q0), .second, .val (.long q1), .second, .val (.long q2), .second, .val (.int p3), .val (.int p4), .unset, .unset, .unset, .unset, .unset, .unset, .unset, .unset] [])) _
    refine XS.lconst X0.here hx rfl (hb hby at_0) ?_
    show Steps p.tables e below (s₁.setTop (mkF m 1 #[.val (.long q0), .second, .val (.long q1), .second, .val (.long q2), .second, .val (.int p3), .val (.int p4), .unset, .unset, .unset, .unset, .unset, .unset, .unset, .unset] [(.long (1 : Int64))])) _
    refine XS.lloadN X0.here hx rfl (hb hby at_1) rfl ?_
    show Steps p.tables e below (s₁.setTop (mkF m 2 #[.val (.long q0), .second, .val (.long q1), .second, .val (.long q2), .second, .val (.int p3), .val (.int p4), .unset, .unset, .unset, .unset, .unset, .unset, .unset, .unset] [(.long q1), (.long (1 : Int64))])) _
    refine X0.ldc2Long hx hown (mvT hZ (hw _ (List.mem_of_getElem? (i := 0) rfl))) (g := (mkF m 2 #[.val (.long q0), .second, .val (.long q1), .second, .val (.long q2), .second, .val (.int p3), .val (.int p4), .unset, .unset, .unset, .unset, .unset, .unset, .unset, .unset] [(.long q1), (.long (1 : Int64))])) rfl (hb hby at_2) _ ?_
    show Steps p.tables e below (s₁.setTop (mkF m 5 #[.val (.long q0), .second, .val (.long q1), .second, .val (.long q2), .second, .val (.int p3), .val (.int p4), .unset, .unset, .unset, .unset, .unset, .unset, .unset, .unset] [(.long (9223372036854775807 : Int64)), (.long q1), (.long (1 : Int64))])) _
    refine XS.land X0.here hx rfl (hb hby at_5) rfl ?_
    show Steps p.tables e below (s₁.setTop (mkF m 6 #[.val (.long q0), .second, .val (.long q1), .second, .val (.long q2), .second, .val (.int p3), .val (.int p4), .unset, .unset, .unset, .unset, .unset, .unset, .unset, .unset] [(.long (q1 &&& (9223372036854775807 : Int64))), (.long (1 : Int64))])) _
    refine st103 _ ?_
    show Steps p.tables e below (T103.setTop (mkF m 9 #[.val (.long q0), .second, .val (.long q1), .second, .val (.long q2), .second, .val (.int p3), .val (.int p4), .unset, .unset, .unset, .unset, .unset, .unset, .unset, .unset] [(.long (own_maxL (1 : Int64) (q1 &&& (9223372036854775807 : Int64))))])) _
    refine XS.lstore X103.here hx rfl (hb hby at_9) rfl (l' := #[.val (.long q0), .second, .val (.long q1), .second, .val (.long q2), .second, .val (.int p3), .val (.int p4), .val (.long (own_maxL (1 : Int64) (q1 &&& (9223372036854775807 : Int64)))), .second, .unset, .unset, .unset, .unset, .unset, .unset]) rfl ?_
    show Steps p.tables e below (T103.setTop (mkF m 11 #[.val (.long q0), .second, .val (.long q1), .second, .val (.long q2), .second, .val (.int p3), .val (.int p4), .val (.long (own_maxL (1 : Int64) (q1 &&& (9223372036854775807 : Int64)))), .second, .unset, .unset, .unset, .unset, .unset, .unset] [])) _
    refine XS.lload X103.here hx rfl (hb hby at_11) rfl ?_
    show Steps p.tables e below (T103.setTop (mkF m 13 #[.val (.long q0), .second, .val (.long q1), .second, .val (.long q2), .second, .val (.int p3), .val (.int p4), .val (.long (own_maxL (1 : Int64) (q1 &&& (9223372036854775807 : Int64)))), .second, .unset, .unset, .unset, .unset, .unset, .unset] [(.long q2)])) _
    refine X103.ldc2Long hx hown (mvT hZ (hw _ (List.mem_of_getElem? (i := 0) rfl))) (g := (mkF m 13 #[.val (.long q0), .second, .val (.long q1), .second, .val (.long q2), .second, .val (.int p3), .val (.int p4), .val (.long (own_maxL (1 : Int64) (q1 &&& (9223372036854775807 : Int64)))), .second, .unset, .unset, .unset, .unset, .unset, .unset] [(.long q2)])) rfl (hb hby at_13) _ ?_
    show Steps p.tables e below (T103.setTop (mkF m 16 #[.val (.long q0), .second, .val (.long q1), .second, .val (.long q2), .second, .val (.int p3), .val (.int p4), .val (.long (own_maxL (1 : Int64) (q1 &&& (9223372036854775807 : Int64)))), .second, .unset, .unset, .unset, .unset, .unset, .unset] [(.long (9223372036854775807 : Int64)), (.long q2)])) _
    refine XS.land X103.here hx rfl (hb hby at_16) rfl ?_
    show Steps p.tables e below (T103.setTop (mkF m 17 #[.val (.long q0), .second, .val (.long q1), .second, .val (.long q2), .second, .val (.int p3), .val (.int p4), .val (.long (own_maxL (1 : Int64) (q1 &&& (9223372036854775807 : Int64)))), .second, .unset, .unset, .unset, .unset, .unset, .unset] [(.long (q2 &&& (9223372036854775807 : Int64)))])) _
    refine XS.lstore X103.here hx rfl (hb hby at_17) rfl (l' := #[.val (.long q0), .second, .val (.long q1), .second, .val (.long q2), .second, .val (.int p3), .val (.int p4), .val (.long (own_maxL (1 : Int64) (q1 &&& (9223372036854775807 : Int64)))), .second, .val (.long (q2 &&& (9223372036854775807 : Int64))), .second, .unset, .unset, .unset, .unset]) rfl ?_
    show Steps p.tables e below (T103.setTop (mkF m 19 #[.val (.long q0), .second, .val (.long q1), .second, .val (.long q2), .second, .val (.int p3), .val (.int p4), .val (.long (own_maxL (1 : Int64) (q1 &&& (9223372036854775807 : Int64)))), .second, .val (.long (q2 &&& (9223372036854775807 : Int64))), .second, .unset, .unset, .unset, .unset] [])) _
    refine XS.iconst X103.here hx rfl (hb hby at_19) ?_
    show Steps p.tables e below (T103.setTop (mkF m 20 #[.val (.long q0), .second, .val (.long q1), .second, .val (.long q2), .second, .val (.int p3), .val (.int p4), .val (.long (own_maxL (1 : Int64) (q1 &&& (9223372036854775807 : Int64)))), .second, .val (.long (q2 &&& (9223372036854775807 : Int64))), .second, .unset, .unset, .unset, .unset] [(.int (2 : Int32))])) _
    refine XS.iload X103.here hx rfl (hb hby at_20) rfl ?_
    show Steps p.tables e below (T103.setTop (mkF m 22 #[.val (.long q0), .second, .val (.long q1), .second, .val (.long q2), .second, .val (.int p3), .val (.int p4), .val (.long (own_maxL (1 : Int64) (q1 &&& (9223372036854775807 : Int64)))), .second, .val (.long (q2 &&& (9223372036854775807 : Int64))), .second, .unset, .unset, .unset, .unset] [(.int p4), (.int (2 : Int32))])) _
    refine X103.ldcInt hx hown (mvT hZ (hw _ (List.mem_of_getElem? (i := 5) rfl))) (g := (mkF m 22 #[.val (.long q0), .second, .val (.long q1), .second, .val (.long q2), .second, .val (.int p3), .val (.int p4), .val (.long (own_maxL (1 : Int64) (q1 &&& (9223372036854775807 : Int64)))), .second, .val (.long (q2 &&& (9223372036854775807 : Int64))), .second, .unset, .unset, .unset, .unset] [(.int p4), (.int (2 : Int32))])) rfl (hb hby at_22) _ ?_
    show Steps p.tables e below (T103.setTop (mkF m 24 #[.val (.long q0), .second, .val (.long q1), .second, .val (.long q2), .second, .val (.int p3), .val (.int p4), .val (.long (own_maxL (1 : Int64) (q1 &&& (9223372036854775807 : Int64)))), .second, .val (.long (q2 &&& (9223372036854775807 : Int64))), .second, .unset, .unset, .unset, .unset] [(.int (2147483647 : Int32)), (.int p4), (.int (2 : Int32))])) _
    refine XS.iand X103.here hx rfl (hb hby at_24) rfl ?_
    show Steps p.tables e below (T103.setTop (mkF m 25 #[.val (.long q0), .second, .val (.long q1), .second, .val (.long q2), .second, .val (.int p3), .val (.int p4), .val (.long (own_maxL (1 : Int64) (q1 &&& (9223372036854775807 : Int64)))), .second, .val (.long (q2 &&& (9223372036854775807 : Int64))), .second, .unset, .unset, .unset, .unset] [(.int (p4 &&& (2147483647 : Int32))), (.int (2 : Int32))])) _
    refine st104 _ ?_
    show Steps p.tables e below (T104.setTop (mkF m 28 #[.val (.long q0), .second, .val (.long q1), .second, .val (.long q2), .second, .val (.int p3), .val (.int p4), .val (.long (own_maxL (1 : Int64) (q1 &&& (9223372036854775807 : Int64)))), .second, .val (.long (q2 &&& (9223372036854775807 : Int64))), .second, .unset, .unset, .unset, .unset] [(.int (own_maxI (2 : Int32) (p4 &&& (2147483647 : Int32))))])) _
    refine XS.istore X104.here hx rfl (hb hby at_28) rfl (l' := #[.val (.long q0), .second, .val (.long q1), .second, .val (.long q2), .second, .val (.int p3), .val (.int p4), .val (.long (own_maxL (1 : Int64) (q1 &&& (9223372036854775807 : Int64)))), .second, .val (.long (q2 &&& (9223372036854775807 : Int64))), .second, .val (.int (own_maxI (2 : Int32) (p4 &&& (2147483647 : Int32)))), .unset, .unset, .unset]) rfl ?_
    show Steps p.tables e below (T104.setTop (mkF m 30 #[.val (.long q0), .second, .val (.long q1), .second, .val (.long q2), .second, .val (.int p3), .val (.int p4), .val (.long (own_maxL (1 : Int64) (q1 &&& (9223372036854775807 : Int64)))), .second, .val (.long (q2 &&& (9223372036854775807 : Int64))), .second, .val (.int (own_maxI (2 : Int32) (p4 &&& (2147483647 : Int32)))), .unset, .unset, .unset] [])) _
    refine st105 _ ?_
    show Steps p.tables e below (T105.setTop (mkF m 33 #[.val (.long q0), .second, .val (.long q1), .second, .val (.long q2), .second, .val (.int p3), .val (.int p4), .val (.long (own_maxL (1 : Int64) (q1 &&& (9223372036854775807 : Int64)))), .second, .val (.long (q2 &&& (9223372036854775807 : Int64))), .second, .val (.int (own_maxI (2 : Int32) (p4 &&& (2147483647 : Int32)))), .unset, .unset, .unset] [(.ref b105)])) _
    refine XS.dup X105.here hx rfl (hb hby at_33) rfl rfl ?_
    show Steps p.tables e below (T105.setTop (mkF m 34 #[.val (.long q0), .second, .val (.long q1), .second, .val (.long q2), .second, .val (.int p3), .val (.int p4), .val (.long (own_maxL (1 : Int64) (q1 &&& (9223372036854775807 : Int64)))), .second, .val (.long (q2 &&& (9223372036854775807 : Int64))), .second, .val (.int (own_maxI (2 : Int32) (p4 &&& (2147483647 : Int32)))), .unset, .unset, .unset] [(.ref b105), (.ref b105)])) _
    refine XS.lloadN X105.here hx rfl (hb hby at_34) rfl ?_
    show Steps p.tables e below (T105.setTop (mkF m 35 #[.val (.long q0), .second, .val (.long q1), .second, .val (.long q2), .second, .val (.int p3), .val (.int p4), .val (.long (own_maxL (1 : Int64) (q1 &&& (9223372036854775807 : Int64)))), .second, .val (.long (q2 &&& (9223372036854775807 : Int64))), .second, .val (.int (own_maxI (2 : Int32) (p4 &&& (2147483647 : Int32)))), .unset, .unset, .unset] [(.long q0), (.ref b105), (.ref b105)])) _
    refine XS.lload X105.here hx rfl (hb hby at_35) rfl ?_
    show Steps p.tables e below (T105.setTop (mkF m 37 #[.val (.long q0), .second, .val (.long q1), .second, .val (.long q2), .second, .val (.int p3), .val (.int p4), .val (.long (own_maxL (1 : Int64) (q1 &&& (9223372036854775807 : Int64)))), .second, .val (.long (q2 &&& (9223372036854775807 : Int64))), .second, .val (.int (own_maxI (2 : Int32) (p4 &&& (2147483647 : Int32)))), .unset, .unset, .unset] [(.long (own_maxL (1 : Int64) (q1 &&& (9223372036854775807 : Int64)))), (.long q0), (.ref b105), (.ref b105)])) _
    refine XS.lload X105.here hx rfl (hb hby at_37) rfl ?_
    show Steps p.tables e below (T105.setTop (mkF m 39 #[.val (.long q0), .second, .val (.long q1), .second, .val (.long q2), .second, .val (.int p3), .val (.int p4), .val (.long (own_maxL (1 : Int64) (q1 &&& (9223372036854775807 : Int64)))), .second, .val (.long (q2 &&& (9223372036854775807 : Int64))), .second, .val (.int (own_maxI (2 : Int32) (p4 &&& (2147483647 : Int32)))), .unset, .unset, .unset] [(.long (q2 &&& (9223372036854775807 : Int64))), (.long (own_maxL (1 : Int64) (q1 &&& (9223372036854775807 : Int64)))), (.long q0), (.ref b105), (.ref b105)])) _
    refine XS.iload X105.here hx rfl (hb hby at_39) rfl ?_
    show Steps p.tables e below (T105.setTop (mkF m 41 #[.val (.long q0), .second, .val (.long q1), .second, .val (.long q2), .second, .val (.int p3), .val (.int p4), .val (.long (own_maxL (1 : Int64) (q1 &&& (9223372036854775807 : Int64)))), .second, .val (.long (q2 &&& (9223372036854775807 : Int64))), .second, .val (.int (own_maxI (2 : Int32) (p4 &&& (2147483647 : Int32)))), .unset, .unset, .unset] [(.int p3), (.long (q2 &&& (9223372036854775807 : Int64))), (.long (own_maxL (1 : Int64) (q1 &&& (9223372036854775807 : Int64)))), (.long q0), (.ref b105), (.ref b105)])) _
    refine st109.trans ?_
    show Steps p.tables e below (T109.setTop (mkF m 44 #[.val (.long q0), .second, .val (.long q1), .second, .val (.long q2), .second, .val (.int p3), .val (.int p4), .val (.long (own_maxL (1 : Int64) (q1 &&& (9223372036854775807 : Int64)))), .second, .val (.long (q2 &&& (9223372036854775807 : Int64))), .second, .val (.int (own_maxI (2 : Int32) (p4 &&& (2147483647 : Int32)))), .unset, .unset, .unset] [(.ref b105)])) _
    refine XS.astore X109.here hx rfl (hb hby at_44) rfl rfl (l' := #[.val (.long q0), .second, .val (.long q1), .second, .val (.long q2), .second, .val (.int p3), .val (.int p4), .val (.long (own_maxL (1 : Int64) (q1 &&& (9223372036854775807 : Int64)))), .second, .val (.long (q2 &&& (9223372036854775807 : Int64))), .second, .val (.int (own_maxI (2 : Int32) (p4 &&& (2147483647 : Int32)))), .val (.ref b105), .unset, .unset]) rfl ?_
    show Steps p.tables e below (T109.setTop (mkF m 46 #[.val (.long q0), .second, .val (.long q1), .second, .val (.long q2), .second, .val (.int p3), .val (.int p4), .val (.long (own_maxL (1 : Int64) (q1 &&& (9223372036854775807 : Int64)))), .second, .val (.long (q2 &&& (9223372036854775807 : Int64))), .second, .val (.int (own_maxI (2 : Int32) (p4 &&& (2147483647 : Int32)))), .val (.ref b105), .unset, .unset] [])) _
    refine XS.aload X109.here hx rfl (hb hby at_46) rfl rfl ?_
    show Steps p.tables e below (T109.setTop (mkF m 48 #[.val (.long q0), .second, .val (.long q1), .second, .val (.long q2), .second, .val (.int p3), .val (.int p4), .val (.long (own_maxL (1 : Int64) (q1 &&& (9223372036854775807 : Int64)))), .second, .val (.long (q2 &&& (9223372036854775807 : Int64))), .second, .val (.int (own_maxI (2 : Int32) (p4 &&& (2147483647 : Int32)))), .val (.ref b105), .unset, .unset] [(.ref b105)])) _
    refine XS.iload X109.here hx rfl (hb hby at_48) rfl ?_
    show Steps p.tables e below (T109.setTop (mkF m 50 #[.val (.long q0), .second, .val (.long q1), .second, .val (.long q2), .second, .val (.int p3), .val (.int p4), .val (.long (own_maxL (1 : Int64) (q1 &&& (9223372036854775807 : Int64)))), .second, .val (.long (q2 &&& (9223372036854775807 : Int64))), .second, .val (.int (own_maxI (2 : Int32) (p4 &&& (2147483647 : Int32)))), .val (.ref b105), .unset, .unset] [(.int (own_maxI (2 : Int32) (p4 &&& (2147483647 : Int32)))), (.ref b105)])) _
    refine st118.trans ?_
    show Steps p.tables e below (T118.setTop (mkF m 53 #[.val (.long q0), .second, .val (.long q1), .second, .val (.long q2), .second, .val (.int p3), .val (.int p4), .val (.long (own_maxL (1 : Int64) (q1 &&& (9223372036854775807 : Int64)))), .second, .val (.long (q2 &&& (9223372036854775807 : Int64))), .second, .val (.int (own_maxI (2 : Int32) (p4 &&& (2147483647 : Int32)))), .val (.ref b105), .unset, .unset] [(.ref r_118)])) _
    refine st123.trans ?_
    show Steps p.tables e below (T123.setTop (mkF m 56 #[.val (.long q0), .second, .val (.long q1), .second, .val (.long q2), .second, .val (.int p3), .val (.int p4), .val (.long (own_maxL (1 : Int64) (q1 &&& (9223372036854775807 : Int64)))), .second, .val (.long (q2 &&& (9223372036854775807 : Int64))), .second, .val (.int (own_maxI (2 : Int32) (p4 &&& (2147483647 : Int32)))), .val (.ref b105), .unset, .unset] [(.long (own_wait (own_maxL (1 : Int64) (q1 &&& (9223372036854775807 : Int64))) (q2 &&& (9223372036854775807 : Int64)) ((own_maxI (2 : Int32) (p4 &&& (2147483647 : Int32))) - (2 : Int32))))])) _
    refine XS.lstore X123.here hx rfl (hb hby at_56) rfl (l' := #[.val (.long q0), .second, .val (.long q1), .second, .val (.long q2), .second, .val (.int p3), .val (.int p4), .val (.long (own_maxL (1 : Int64) (q1 &&& (9223372036854775807 : Int64)))), .second, .val (.long (q2 &&& (9223372036854775807 : Int64))), .second, .val (.int (own_maxI (2 : Int32) (p4 &&& (2147483647 : Int32)))), .val (.ref b105), .val (.long (own_wait (own_maxL (1 : Int64) (q1 &&& (9223372036854775807 : Int64))) (q2 &&& (9223372036854775807 : Int64)) ((own_maxI (2 : Int32) (p4 &&& (2147483647 : Int32))) - (2 : Int32)))), .second]) rfl ?_
    show Steps p.tables e below (T123.setTop (mkF m 58 #[.val (.long q0), .second, .val (.long q1), .second, .val (.long q2), .second, .val (.int p3), .val (.int p4), .val (.long (own_maxL (1 : Int64) (q1 &&& (9223372036854775807 : Int64)))), .second, .val (.long (q2 &&& (9223372036854775807 : Int64))), .second, .val (.int (own_maxI (2 : Int32) (p4 &&& (2147483647 : Int32)))), .val (.ref b105), .val (.long (own_wait (own_maxL (1 : Int64) (q1 &&& (9223372036854775807 : Int64))) (q2 &&& (9223372036854775807 : Int64)) ((own_maxI (2 : Int32) (p4 &&& (2147483647 : Int32))) - (2 : Int32)))), .second] [])) _
    refine XS.lload X123.here hx rfl (hb hby at_58) rfl ?_
    show Steps p.tables e below (T123.setTop (mkF m 60 #[.val (.long q0), .second, .val (.long q1), .second, .val (.long q2), .second, .val (.int p3), .val (.int p4), .val (.long (own_maxL (1 : Int64) (q1 &&& (9223372036854775807 : Int64)))), .second, .val (.long (q2 &&& (9223372036854775807 : Int64))), .second, .val (.int (own_maxI (2 : Int32) (p4 &&& (2147483647 : Int32)))), .val (.ref b105), .val (.long (own_wait (own_maxL (1 : Int64) (q1 &&& (9223372036854775807 : Int64))) (q2 &&& (9223372036854775807 : Int64)) ((own_maxI (2 : Int32) (p4 &&& (2147483647 : Int32))) - (2 : Int32)))), .second] [(.long (own_wait (own_maxL (1 : Int64) (q1 &&& (9223372036854775807 : Int64))) (q2 &&& (9223372036854775807 : Int64)) ((own_maxI (2 : Int32) (p4 &&& (2147483647 : Int32))) - (2 : Int32))))])) _
    refine XS.lload X123.here hx rfl (hb hby at_60) rfl ?_
    show Steps p.tables e below (T123.setTop (mkF m 62 #[.val (.long q0), .second, .val (.long q1), .second, .val (.long q2), .second, .val (.int p3), .val (.int p4), .val (.long (own_maxL (1 : Int64) (q1 &&& (9223372036854775807 : Int64)))), .second, .val (.long (q2 &&& (9223372036854775807 : Int64))), .second, .val (.int (own_maxI (2 : Int32) (p4 &&& (2147483647 : Int32)))), .val (.ref b105), .val (.long (own_wait (own_maxL (1 : Int64) (q1 &&& (9223372036854775807 : Int64))) (q2 &&& (9223372036854775807 : Int64)) ((own_maxI (2 : Int32) (p4 &&& (2147483647 : Int32))) - (2 : Int32)))), .second] [(.long (own_maxL (1 : Int64) (q1 &&& (9223372036854775807 : Int64)))), (.long (own_wait (own_maxL (1 : Int64) (q1 &&& (9223372036854775807 : Int64))) (q2 &&& (9223372036854775807 : Int64)) ((own_maxI (2 : Int32) (p4 &&& (2147483647 : Int32))) - (2 : Int32))))])) _
    refine XS.lload X123.here hx rfl (hb hby at_62) rfl ?_
    show Steps p.tables e below (T123.setTop (mkF m 64 #[.val (.long q0), .second, .val (.long q1), .second, .val (.long q2), .second, .val (.int p3), .val (.int p4), .val (.long (own_maxL (1 : Int64) (q1 &&& (9223372036854775807 : Int64)))), .second, .val (.long (q2 &&& (9223372036854775807 : Int64))), .second, .val (.int (own_maxI (2 : Int32) (p4 &&& (2147483647 : Int32)))), .val (.ref b105), .val (.long (own_wait (own_maxL (1 : Int64) (q1 &&& (9223372036854775807 : Int64))) (q2 &&& (9223372036854775807 : Int64)) ((own_maxI (2 : Int32) (p4 &&& (2147483647 : Int32))) - (2 : Int32)))), .second] [(.long (q2 &&& (9223372036854775807 : Int64))), (.long (own_maxL (1 : Int64) (q1 &&& (9223372036854775807 : Int64)))), (.long (own_wait (own_maxL (1 : Int64) (q1 &&& (9223372036854775807 : Int64))) (q2 &&& (9223372036854775807 : Int64)) ((own_maxI (2 : Int32) (p4 &&& (2147483647 : Int32))) - (2 : Int32))))])) _
    refine XS.iload X123.here hx rfl (hb hby at_64) rfl ?_
    show Steps p.tables e below (T123.setTop (mkF m 66 #[.val (.long q0), .second, .val (.long q1), .second, .val (.long q2), .second, .val (.int p3), .val (.int p4), .val (.long (own_maxL (1 : Int64) (q1 &&& (9223372036854775807 : Int64)))), .second, .val (.long (q2 &&& (9223372036854775807 : Int64))), .second, .val (.int (own_maxI (2 : Int32) (p4 &&& (2147483647 : Int32)))), .val (.ref b105), .val (.long (own_wait (own_maxL (1 : Int64) (q1 &&& (9223372036854775807 : Int64))) (q2 &&& (9223372036854775807 : Int64)) ((own_maxI (2 : Int32) (p4 &&& (2147483647 : Int32))) - (2 : Int32)))), .second] [(.int (own_maxI (2 : Int32) (p4 &&& (2147483647 : Int32)))), (.long (q2 &&& (9223372036854775807 : Int64))), (.long (own_maxL (1 : Int64) (q1 &&& (9223372036854775807 : Int64)))), (.long (own_wait (own_maxL (1 : Int64) (q1 &&& (9223372036854775807 : Int64))) (q2 &&& (9223372036854775807 : Int64)) ((own_maxI (2 : Int32) (p4 &&& (2147483647 : Int32))) - (2 : Int32))))])) _
    refine XS.iconst X123.here hx rfl (hb hby at_66) ?_
    show Steps p.tables e below (T123.setTop (mkF m 67 #[.val (.long q0), .second, .val (.long q1), .second, .val (.long q2), .second, .val (.int p3), .val (.int p4), .val (.long (own_maxL (1 : Int64) (q1 &&& (9223372036854775807 : Int64)))), .second, .val (.long (q2 &&& (9223372036854775807 : Int64))), .second, .val (.int (own_maxI (2 : Int32) (p4 &&& (2147483647 : Int32)))), .val (.ref b105), .val (.long (own_wait (own_maxL (1 : Int64) (q1 &&& (9223372036854775807 : Int64))) (q2 &&& (9223372036854775807 : Int64)) ((own_maxI (2 : Int32) (p4 &&& (2147483647 : Int32))) - (2 : Int32)))), .second] [(.int (2 : Int32)), (.int (own_maxI (2 : Int32) (p4 &&& (2147483647 : Int32)))), (.long (q2 &&& (9223372036854775807 : Int64))), (.long (own_maxL (1 : Int64) (q1 &&& (9223372036854775807 : Int64)))), (.long (own_wait (own_maxL (1 : Int64) (q1 &&& (9223372036854775807 : Int64))) (q2 &&& (9223372036854775807 : Int64)) ((own_maxI (2 : Int32) (p4 &&& (2147483647 : Int32))) - (2 : Int32))))])) _
    refine XS.isub X123.here hx rfl (hb hby at_67) rfl ?_
    show Steps p.tables e below (T123.setTop (mkF m 68 #[.val (.long q0), .second, .val (.long q1), .second, .val (.long q2), .second, .val (.int p3), .val (.int p4), .val (.long (own_maxL (1 : Int64) (q1 &&& (9223372036854775807 : Int64)))), .second, .val (.long (q2 &&& (9223372036854775807 : Int64))), .second, .val (.int (own_maxI (2 : Int32) (p4 &&& (2147483647 : Int32)))), .val (.ref b105), .val (.long (own_wait (own_maxL (1 : Int64) (q1 &&& (9223372036854775807 : Int64))) (q2 &&& (9223372036854775807 : Int64)) ((own_maxI (2 : Int32) (p4 &&& (2147483647 : Int32))) - (2 : Int32)))), .second] [(.int ((own_maxI (2 : Int32) (p4 &&& (2147483647 : Int32))) - (2 : Int32))), (.long (q2 &&& (9223372036854775807 : Int64))), (.long (own_maxL (1 : Int64) (q1 &&& (9223372036854775807 : Int64)))), (.long (own_wait (own_maxL (1 : Int64) (q1 &&& (9223372036854775807 : Int64))) (q2 &&& (9223372036854775807 : Int64)) ((own_maxI (2 : Int32) (p4 &&& (2147483647 : Int32))) - (2 : Int32))))])) _
    refine st124 _ ?_
    show Steps p.tables e below (T124.setTop (mkF m 71 #[.val (.long q0), .second, .val (.long q1), .second, .val (.long q2), .second, .val (.int p3), .val (.int p4), .val (.long (own_maxL (1 : Int64) (q1 &&& (9223372036854775807 : Int64)))), .second, .val (.long (q2 &&& (9223372036854775807 : Int64))), .second, .val (.int (own_maxI (2 : Int32) (p4 &&& (2147483647 : Int32)))), .val (.ref b105), .val (.long (own_wait (own_maxL (1 : Int64) (q1 &&& (9223372036854775807 : Int64))) (q2 &&& (9223372036854775807 : Int64)) ((own_maxI (2 : Int32) (p4 &&& (2147483647 : Int32))) - (2 : Int32)))), .second] [(.long (own_exp (own_maxL (1 : Int64) (q1 &&& (9223372036854775807 : Int64))) (q2 &&& (9223372036854775807 : Int64)) ((own_maxI (2 : Int32) (p4 &&& (2147483647 : Int32))) - (2 : Int32)))), (.long (own_wait (own_maxL (1 : Int64) (q1 &&& (9223372036854775807 : Int64))) (q2 &&& (9223372036854775807 : Int64)) ((own_maxI (2 : Int32) (p4 &&& (2147483647 : Int32))) - (2 : Int32))))])) _
    refine XS.lcmp X124.here hx rfl (hb hby at_71) rfl ?_
    show Steps p.tables e below (T124.setTop (mkF m 72 #[.val (.long q0), .second, .val (.long q1), .second, .val (.long q2), .second, .val (.int p3), .val (.int p4), .val (.long (own_maxL (1 : Int64) (q1 &&& (9223372036854775807 : Int64)))), .second, .val (.long (q2 &&& (9223372036854775807 : Int64))), .second, .val (.int (own_maxI (2 : Int32) (p4 &&& (2147483647 : Int32)))), .val (.ref b105), .val (.long (own_wait (own_maxL (1 : Int64) (q1 &&& (9223372036854775807 : Int64))) (q2 &&& (9223372036854775807 : Int64)) ((own_maxI (2 : Int32) (p4 &&& (2147483647 : Int32))) - (2 : Int32)))), .second] [(.int (lcmpW (own_wait (own_maxL (1 : Int64) (q1 &&& (9223372036854775807 : Int64))) (q2 &&& (9223372036854775807 : Int64)) ((own_maxI (2 : Int32) (p4 &&& (2147483647 : Int32))) - (2 : Int32))) (own_exp (own_maxL (1 : Int64) (q1 &&& (9223372036854775807 : Int64))) (q2 &&& (9223372036854775807 : Int64)) ((own_maxI (2 : Int32) (p4 &&& (2147483647 : Int32))) - (2 : Int32)))))])) _
    refine XS.ifNo X124.here hx rfl (hb hby at_72) rfl ((if0 _ _).trans (teq (((lw_eq (own_wait (own_maxL (1 : Int64) (q1 &&& (9223372036854775807 : Int64))) (q2 &&& (9223372036854775807 : Int64)) ((own_maxI (2 : Int32) (p4 &&& (2147483647 : Int32))) - (2 : Int32))) (own_exp (own_maxL (1 : Int64) (q1 &&& (9223372036854775807 : Int64))) (q2 &&& (9223372036854775807 : Int64)) ((own_maxI (2 : Int32) (p4 &&& (2147483647 : Int32))) - (2 : Int32)))).mpr (own_key _ _ _ (own_i _) ((c_andSL q2 (9223372036854775807 : Int64)).2.2 (by decide)) (own_d _))) : (lcmpW (own_wait (own_maxL (1 : Int64) (q1 &&& (9223372036854775807 : Int64))) (q2 &&& (9223372036854775807 : Int64)) ((own_maxI (2 : Int32) (p4 &&& (2147483647 : Int32))) - (2 : Int32))) (own_exp (own_maxL (1 : Int64) (q1 &&& (9223372036854775807 : Int64))) (q2 &&& (9223372036854775807 : Int64)) ((own_maxI (2 : Int32) (p4 &&& (2147483647 : Int32))) - (2 : Int32)))) = (0 : Int32))).2) ?_
    show Steps p.tables e below (T124.setTop (mkF m 75 #[.val (.long q0), .second, .val (.long q1), .second, .val (.long q2), .second, .val (.int p3), .val (.int p4), .val (.long (own_maxL (1 : Int64) (q1 &&& (9223372036854775807 : Int64)))), .second, .val (.long (q2 &&& (9223372036854775807 : Int64))), .second, .val (.int (own_maxI (2 : Int32) (p4 &&& (2147483647 : Int32)))), .val (.ref b105), .val (.long (own_wait (own_maxL (1 : Int64) (q1 &&& (9223372036854775807 : Int64))) (q2 &&& (9223372036854775807 : Int64)) ((own_maxI (2 : Int32) (p4 &&& (2147483647 : Int32))) - (2 : Int32)))), .second] [])) _
    refine XS.iconst X124.here hx rfl (hb hby at_75) ?_
    show Steps p.tables e below (T124.setTop (mkF m 76 #[.val (.long q0), .second, .val (.long q1), .second, .val (.long q2), .second, .val (.int p3), .val (.int p4), .val (.long (own_maxL (1 : Int64) (q1 &&& (9223372036854775807 : Int64)))), .second, .val (.long (q2 &&& (9223372036854775807 : Int64))), .second, .val (.int (own_maxI (2 : Int32) (p4 &&& (2147483647 : Int32)))), .val (.ref b105), .val (.long (own_wait (own_maxL (1 : Int64) (q1 &&& (9223372036854775807 : Int64))) (q2 &&& (9223372036854775807 : Int64)) ((own_maxI (2 : Int32) (p4 &&& (2147483647 : Int32))) - (2 : Int32)))), .second] [(.int (1 : Int32))])) _
    refine XS.goto X124.here hx rfl (pc0 := 76) (pc' := 80) rfl (hb hby at_76) (by decide) (by decide) ?_
    show Steps p.tables e below (T124.setTop (mkF m 80 #[.val (.long q0), .second, .val (.long q1), .second, .val (.long q2), .second, .val (.int p3), .val (.int p4), .val (.long (own_maxL (1 : Int64) (q1 &&& (9223372036854775807 : Int64)))), .second, .val (.long (q2 &&& (9223372036854775807 : Int64))), .second, .val (.int (own_maxI (2 : Int32) (p4 &&& (2147483647 : Int32)))), .val (.ref b105), .val (.long (own_wait (own_maxL (1 : Int64) (q1 &&& (9223372036854775807 : Int64))) (q2 &&& (9223372036854775807 : Int64)) ((own_maxI (2 : Int32) (p4 &&& (2147483647 : Int32))) - (2 : Int32)))), .second] [(.int (1 : Int32))])) _
    exact retN X124 hx (t := .boolean) Bd.returns (by simp) (hb hby at_80) hr
  · show Qrm0 Z q0 q1 q2 p3 p4 z h0 n0 _ T124.heap _
    rw [e124]
    exact ⟨rfl, N124, KC120⟩
set_option maxRecDepth 65536 in
set_option maxHeartbeats 40000000 in
theorem comes_1 {Post : Tables → Env → Array Value → State → Outcome → State → Prop} (hpost : ∀ tb e args s v u, (limb_1_1.after args s (.returned v) u = true ∧ limb_1_2.after args s (.returned v) u = true ∧ True) → FrameEnd s (.returned v) u (Jvm.fieldLocs frame_1_writes args s ++ Jvm.arrayLocs frame_1_arrays args s ++ Jvm.staticLocs frame_1_statics s) 16 128 → Post tb e args s (.returned v) u) :
    ArmFor flags0 classFile x code maxLocals ret World_1 tables_1 room_1 Calls_1 rest_1 Pre_1 Post := by
  intro l hfl _ _ p e ha hc hk s m args below hf hA hF happ hP
  obtain ⟨hcalls, hrest, hpre⟩ := hP
  obtain ⟨-, -, -, hnamed, -, -, -, hat⟩ := (Spec.applies_iff hf).mp happ
  obtain ⟨hg, hn⟩ := and_e (Cond.before_iff.mp (show (Jvm.Cond.and given_1 narrow_1).before args s = true from hpre))
  obtain ⟨gg0, gr0⟩ := and_e hg
  obtain ⟨gg1, gr1⟩ := and_e gr0
  obtain ⟨gg2, gr2⟩ := and_e gr1
  obtain ⟨gg3, gr3⟩ := and_e gr2
  obtain ⟨gg4, gg5⟩ := and_e gr3
  obtain ⟨w0, w1, w2, w3, w4, rfl⟩ : ∃ w0 w1 w2 w3 w4 : Value, args = #[w0, w1, w2, w3, w4] := by
    have hs : args.size = 5 := by simpa [Cond.value, given_1] using gg0
    obtain ⟨L⟩ := args
    match L, hs with
    | [w0, w1, w2, w3, w4], _ => exact ⟨w0, w1, w2, w3, w4, rfl⟩
  have hw := fun d (hd : d ∈ tables_1) => atoms_spec (ws := Jvm.Cond.code x code maxLocals ret :: tables_1) hat d (List.mem_cons_of_mem _ hd)
  have hfit : Fit s := fun {y c} hc i hi => by
    obtain ⟨ha, rfl⟩ := Array.getElem?_eq_some_iff.mp hc
    have q := List.all_eq_true.mp ((Array.all_eq_true_iff_forall_mem.mp hF) _ (Array.getElem_mem ha)) i (List.mem_range.mpr hi)
    simpa [Array.getElem?_eq_getElem hi] using q
  obtain ⟨hsets, hown0⟩ := atoms_of _ (rest_1_c_eq ▸ (show rest_1_c.before _ s = true from hrest))
  obtain ⟨i0, ei0⟩ := isL_v gg1
  obtain rfl : w0 = (.long i0) := Option.some.inj ei0
  obtain ⟨i1, ei1⟩ := isL_v gg2
  obtain rfl : w1 = (.long i1) := Option.some.inj ei1
  obtain ⟨i2, ei2⟩ := isL_v gg3
  obtain rfl : w2 = (.long i2) := Option.some.inj ei2
  obtain ⟨i3, ei3⟩ := is_v gg4
  obtain rfl : w3 = (.int i3) := Option.some.inj ei3
  obtain ⟨i4, ei4⟩ := is_v gg5
  obtain rfl : w4 = (.int i4) := Option.some.inj ei4
  obtain ⟨a_ZERO, v_ZERO⟩ := exa_v (Cond.before_iff.mp (hsets _ (List.mem_of_getElem? (i := 2) rfl)))
  have E_ZERO := Exa.start v_ZERO (Cond.before_iff.mp (hsets _ (List.mem_of_getElem? (i := 2) rfl)))
  have S_ZERO := Sta.start v_ZERO (Or.inl (hsets _ (List.mem_of_getElem? (i := 1) rfl)))
  have F_ZERO_seconds := Fld.start ((fld_at v_ZERO).symm.trans (own_eqL (Cond.before_iff.mp (hsets _ (List.mem_of_getElem? (i := 3) rfl)))))
  have F_ZERO_nanos := Fld.start ((fld_at v_ZERO).symm.trans (own_eqI (Cond.before_iff.mp (hsets _ (List.mem_of_getElem? (i := 4) rfl)))))
  obtain ⟨n, o, h1, h2, h3, _, L, rfl, ⟨rfl, N, -⟩, hq⟩ := rm0 l s _ hw tables_1 i0 i1 i2 i3 i4 a_ZERO s.heap s.heap.size (Nat.le_refl _) S_ZERO E_ZERO F_ZERO_seconds p e ha hc hk s m _ below hf ((Spec.applies_iff_loose hf).mp happ).1 ⟨rfl, State.Warmed39.refl s, rfl⟩ trivial
  exact ⟨n, _, h1, h2, h3, hpost _ _ _ _ _ _ ⟨Cond.after_iff.mpr rfl, Cond.after_iff.mpr (eq_i res_at (Term.int_eval (1)) rfl), trivial⟩ ⟨hq.1, hq.2.1, (hq.2.2.sift fun y hy => Or.inr (N y hy)).mono (by decide) (by decide)⟩⟩
theorem main_1_1 : Claimed_1_1 := comes_1 fun _ _ _ _ _ _ h hF => ⟨h.1, hF⟩
theorem main_1_2 : Claimed_1_2 := comes_1 fun _ _ _ _ _ _ h hF => ⟨h.2.1, hF⟩
end Jvm.Pilot.@@N@@
namespace Jvm.Pilot.@@N@@
open Jvm Jvm.ClassFile Sem Op Lib Jvm.Free Jvm.Stand Jvm.Pilot.@@N@@.Jvm.D
/-! MADE BY PROGRAM (witnessworld.py) out of the Statement's table words and the real class files: 14 classes; the members and pool entries that the words name. The judged class is class 1, her method 1. -/
namespace start1
open Jvm.ClassFile
def u (s : String) : CpInfo := .utf8 (stringToUtf16 s)
/-- a pool by its gaps: so many unusable entries, then the entry; so many at the end -/
def gap : Nat → List CpInfo → List CpInfo
  | 0, r => r
  | n + 1, r => .unusable :: gap n r
def poolList (es : List (Nat × CpInfo)) (last : Nat) : List CpInfo := es.foldr (fun e r => gap e.1 (e.2 :: r)) (gap last [])
def pool (es : List (Nat × CpInfo)) (last : Nat) : Array CpInfo := ⟨poolList es last⟩
def fileOf (pool : Array CpInfo) (this : Nat) (attrs : Array Attribute := #[]) (ms : Array MethodInfo := #[]) (fl : Nat := 33) (sup : Nat := 0) (ifs : Array Nat := #[]) (fds : Array FieldInfo := #[]) : ClassFile where
  minorVersion := 0
  majorVersion := 65
  constantPool := pool
  accessFlags := fl
  thisClass := this
  superClass := sup
  interfaces := ifs
  fields := fds
  methods := ms
  attributes := attrs
def plain (name : String) (sup : Option ClassId) : Class where
  name := name
  kind := .ordinary
  loader := none
  accessFlags := 33
  super := sup
  interfaces := #[]
  cf := none
  fields := #[]
  methods := #[]
  instanceTypes := #[]
  staticTypes := #[]
  resolved := #[]
  callSites := []
  init := .initialized
  statics := none
  mirror := none

def pool0 : Array CpInfo := pool [(5, u "<init>"), (0, u "()V"), (1, .class_ 10), (1, u "java/lang/Object")] 113

def k0c0 : Code := { maxStack := 0, maxLocals := 1, code := object_method_1_code, exceptionTable := #[], attributes := #[] }
def k0m0 : Method := { name := "<init>", desc := "()V", sig := { parameters := [], returnType := none }, accessFlags := 1, code := some k0c0 }
/-- java/lang/Object -/
def k0 : Class := { plain "java/lang/Object" none with
  accessFlags := 33
  interfaces := #[]
  cf := some (fileOf pool0 8 #[] #[{ accessFlags := 1, nameIndex := 5, descriptorIndex := 6, attributes := #[] }] 33 0 #[] #[])
  fields := #[]
  methods := #[k0m0]
  instanceTypes := #[]
  staticTypes := #[]
  resolved := Array.replicate 124 none
  statics := none }

def pool1 : Array CpInfo := pool [(2, .class_ 4), (1, u "java/lang/Object"), (0, u "<init>"), (0, u "()V"), (2, .long 9223372036854775807), (1, .methodref 12 13), (0, .class_ 14), (0, .nameAndType 15 16), (0, u "java/lang/Math"), (0, u "max"), (0, u "(JJ)J"), (0, .integer 2147483647), (0, .methodref 12 19), (0, .nameAndType 15 20), (0, u "(II)I"), (0, .class_ 22), (0, u "com/example/vervet/vervet/DeliveryPolicy"), (0, .methodref 21 24), (0, .nameAndType 5 25), (0, u "(JJJI)V"), (0, .methodref 21 27), (0, .nameAndType 28 29), (0, u "waitBefore"), (0, u "(I)Ljava/time/Duration;"), (0, .methodref 31 32), (0, .class_ 33), (0, .nameAndType 34 35), (0, u "java/time/Duration"), (0, u "getSeconds"), (0, u "()J"), (0, .methodref 37 38), (0, .class_ 39), (0, .nameAndType 40 41), (0, u "com/example/vervet/vervet/DeliveryPolicyWaitBeforePinLaw"), (0, u "expected"), (0, u "(JJI)J"), (2, u "law"), (0, u "(JJJII)Z")] 3

def k1m0 : Method := { name := "<init>", desc := "()V", sig := { parameters := [], returnType := none }, accessFlags := 1, code := none }
def k1c1 : Code := { maxStack := 9, maxLocals := 16, code := code, exceptionTable := #[], attributes := #[] }
def k1m1 : Method := { name := "law", desc := "(JJJII)Z", sig := { parameters := [.long, .long, .long, .int, .int], returnType := some .boolean }, accessFlags := 9, code := some k1c1 }
def k1c2 : Code := { maxStack := 6, maxLocals := 7, code := method_3_code, exceptionTable := #[], attributes := #[] }
def k1m2 : Method := { name := "expected", desc := "(JJI)J", sig := { parameters := [.long, .long, .int], returnType := some .long }, accessFlags := 10, code := some k1c2 }
/-- com/example/vervet/vervet/DeliveryPolicyWaitBeforePinLaw -/
def k1 : Class := { plain "com/example/vervet/vervet/DeliveryPolicyWaitBeforePinLaw" (some 0) with
  accessFlags := 49
  interfaces := #[]
  cf := some (fileOf pool1 37 #[] #[{ accessFlags := 1, nameIndex := 5, descriptorIndex := 6, attributes := #[] }, { accessFlags := 9, nameIndex := 44, descriptorIndex := 45, attributes := #[] }, { accessFlags := 10, nameIndex := 40, descriptorIndex := 41, attributes := #[] }] 49 2 #[] #[])
  fields := #[]
  methods := #[k1m0, k1m1, k1m2]
  instanceTypes := #[]
  staticTypes := #[]
  resolved := Array.replicate 49 none
  statics := none }

def pool2 : Array CpInfo := pool [(1, .class_ 2), (0, u "java/lang/Math"), (1, .class_ 6), (1, u "java/lang/Object"), (0, u "<init>"), (0, u "()V"), (89, .class_ 100), (1, u "java/lang/Math$RandomNumberGeneratorHolder"), (20, u "(JJ)J"), (50, u "negativeZeroFloatBits"), (0, u "J"), (2, u "negativeZeroDoubleBits"), (21, u "max"), (46, u "$assertionsDisabled"), (0, u "Z"), (88, u "(II)I"), (2, u "twoToTheDoubleScaleDown"), (0, u "D"), (4, u "twoToTheDoubleScaleUp"), (9, u "E"), (3, u "PI"), (2, u "TAU"), (2, u "DEGREES_TO_RADIANS"), (0, u "RADIANS_TO_DEGREES")] 94

def k2m0 : Method := { name := "<init>", desc := "()V", sig := { parameters := [], returnType := none }, accessFlags := 2, code := none }
def k2c1 : Code := { maxStack := 2, maxLocals := 2, code := jdk_29_method_65_code, exceptionTable := #[], attributes := #[] }
def k2m1 : Method := { name := "max", desc := "(II)I", sig := { parameters := [.int, .int], returnType := some .int }, accessFlags := 9, code := some k2c1 }
def k2c2 : Code := { maxStack := 4, maxLocals := 4, code := jdk_29_method_66_code, exceptionTable := #[], attributes := #[] }
def k2m2 : Method := { name := "max", desc := "(JJ)J", sig := { parameters := [.long, .long], returnType := some .long }, accessFlags := 9, code := some k2c2 }
/-- java/lang/Math -/
def k2 : Class := { plain "java/lang/Math" (some 0) with
  accessFlags := 49
  interfaces := #[]
  cf := some (fileOf pool2 1 #[.nestMembers #[98]] #[{ accessFlags := 2, nameIndex := 7, descriptorIndex := 8, attributes := #[] }, { accessFlags := 9, nameIndex := 198, descriptorIndex := 335, attributes := #[] }, { accessFlags := 9, nameIndex := 198, descriptorIndex := 121, attributes := #[] }] 49 4 #[] #[{ accessFlags := 25, nameIndex := 354, descriptorIndex := 339, attributes := #[] }, { accessFlags := 25, nameIndex := 358, descriptorIndex := 339, attributes := #[] }, { accessFlags := 25, nameIndex := 361, descriptorIndex := 339, attributes := #[] }, { accessFlags := 26, nameIndex := 364, descriptorIndex := 339, attributes := #[] }, { accessFlags := 26, nameIndex := 365, descriptorIndex := 339, attributes := #[] }, { accessFlags := 26, nameIndex := 172, descriptorIndex := 173, attributes := #[] }, { accessFlags := 26, nameIndex := 176, descriptorIndex := 173, attributes := #[] }, { accessFlags := 8, nameIndex := 344, descriptorIndex := 339, attributes := #[] }, { accessFlags := 8, nameIndex := 338, descriptorIndex := 339, attributes := #[] }, { accessFlags := 4120, nameIndex := 245, descriptorIndex := 246, attributes := #[] }])
  fields := #[{ name := "E", type := .double, accessFlags := 25, slot := 0, constantValue := 0 }, { name := "PI", type := .double, accessFlags := 25, slot := 1, constantValue := 0 }, { name := "TAU", type := .double, accessFlags := 25, slot := 2, constantValue := 0 }, { name := "DEGREES_TO_RADIANS", type := .double, accessFlags := 26, slot := 3, constantValue := 0 }, { name := "RADIANS_TO_DEGREES", type := .double, accessFlags := 26, slot := 4, constantValue := 0 }, { name := "negativeZeroFloatBits", type := .long, accessFlags := 26, slot := 5, constantValue := 0 }, { name := "negativeZeroDoubleBits", type := .long, accessFlags := 26, slot := 6, constantValue := 0 }, { name := "twoToTheDoubleScaleUp", type := .double, accessFlags := 8, slot := 7, constantValue := 0 }, { name := "twoToTheDoubleScaleDown", type := .double, accessFlags := 8, slot := 8, constantValue := 0 }, { name := "$assertionsDisabled", type := .boolean, accessFlags := 4120, slot := 9, constantValue := 0 }]
  methods := #[k2m0, k2m1, k2m2]
  instanceTypes := #[]
  staticTypes := #[.double, .double, .double, .double, .double, .long, .long, .double, .double, .boolean]
  resolved := Array.replicate 460 none
  statics := none }

def pool3 : Array CpInfo := pool [(1, .methodref 2 3), (0, .class_ 4), (0, .nameAndType 5 6), (0, u "java/lang/Object"), (0, u "<init>"), (0, u "()V"), (0, .class_ 8), (0, u "java/lang/Record")] 13

def k3c0 : Code := { maxStack := 1, maxLocals := 1, code := jdk_30_method_1_code, exceptionTable := #[], attributes := #[] }
def k3m0 : Method := { name := "<init>", desc := "()V", sig := { parameters := [], returnType := none }, accessFlags := 4, code := some k3c0 }
/-- java/lang/Record -/
def k3 : Class := { plain "java/lang/Record" (some 0) with
  accessFlags := 1057
  interfaces := #[]
  cf := some (fileOf pool3 7 #[] #[{ accessFlags := 4, nameIndex := 5, descriptorIndex := 6, attributes := #[] }] 1057 2 #[] #[])
  fields := #[]
  methods := #[k3m0]
  instanceTypes := #[]
  staticTypes := #[]
  resolved := Array.replicate 22 none
  statics := none }

def pool4 : Array CpInfo := pool [(1, .methodref 2 3), (0, .class_ 4), (0, .nameAndType 5 6), (0, u "java/lang/Record"), (0, u "<init>"), (0, u "()V"), (0, .fieldref 8 9), (0, .class_ 10), (0, .nameAndType 11 12), (0, u "com/example/vervet/vervet/DeliveryPolicy"), (0, u "timeout"), (0, u "J"), (0, .fieldref 8 14), (0, .nameAndType 15 12), (0, u "retryInitial"), (0, .fieldref 8 17), (0, .nameAndType 18 12), (0, u "retryMaxDelay"), (0, .fieldref 8 20), (0, .nameAndType 21 22), (0, u "attempts"), (0, u "I"), (2, .methodref 26 27), (0, .class_ 28), (0, .nameAndType 29 30), (0, u "java/time/Duration"), (0, u "ofSeconds"), (0, u "(J)Ljava/time/Duration;"), (18, u "(JJJI)V"), (2, u "DEFAULT"), (0, u "Lcom/example/vervet/vervet/DeliveryPolicy;"), (3, u "waitBefore"), (0, u "(I)Ljava/time/Duration;")] 29

def k4c0 : Code := { maxStack := 3, maxLocals := 8, code := prog_2_method_1_code, exceptionTable := #[], attributes := #[] }
def k4m0 : Method := { name := "<init>", desc := "(JJJI)V", sig := { parameters := [.long, .long, .long, .int], returnType := none }, accessFlags := 0, code := some k4c0 }
def k4c1 : Code := { maxStack := 5, maxLocals := 5, code := prog_2_method_2_code, exceptionTable := #[], attributes := #[] }
def k4m1 : Method := { name := "waitBefore", desc := "(I)Ljava/time/Duration;", sig := { parameters := [.int], returnType := some (.object "java/time/Duration") }, accessFlags := 0, code := some k4c1 }
/-- com/example/vervet/vervet/DeliveryPolicy -/
def k4 : Class := { plain "com/example/vervet/vervet/DeliveryPolicy" (some 3) with
  accessFlags := 48
  interfaces := #[]
  cf := some (fileOf pool4 8 #[] #[{ accessFlags := 0, nameIndex := 5, descriptorIndex := 49, attributes := #[] }, { accessFlags := 0, nameIndex := 57, descriptorIndex := 58, attributes := #[] }] 48 2 #[] #[{ accessFlags := 18, nameIndex := 11, descriptorIndex := 12, attributes := #[] }, { accessFlags := 18, nameIndex := 15, descriptorIndex := 12, attributes := #[] }, { accessFlags := 18, nameIndex := 18, descriptorIndex := 12, attributes := #[] }, { accessFlags := 18, nameIndex := 21, descriptorIndex := 22, attributes := #[] }, { accessFlags := 24, nameIndex := 52, descriptorIndex := 53, attributes := #[] }])
  fields := #[{ name := "timeout", type := .long, accessFlags := 18, slot := 0, constantValue := 0 }, { name := "retryInitial", type := .long, accessFlags := 18, slot := 1, constantValue := 0 }, { name := "retryMaxDelay", type := .long, accessFlags := 18, slot := 2, constantValue := 0 }, { name := "attempts", type := .int, accessFlags := 18, slot := 3, constantValue := 0 }, { name := "DEFAULT", type := (.object "com/example/vervet/vervet/DeliveryPolicy"), accessFlags := 24, slot := 0, constantValue := 0 }]
  methods := #[k4m0, k4m1]
  instanceTypes := #[.long, .long, .long, .int]
  staticTypes := #[(.object "com/example/vervet/vervet/DeliveryPolicy")]
  resolved := Array.replicate 88 none
  statics := none }

def pool5 : Array CpInfo := pool [(1, .class_ 2), (0, u "java/time/temporal/TemporalAmount"), (0, .class_ 4), (0, u "java/lang/Object")] 11

/-- java/time/temporal/TemporalAmount -/
def k5 : Class := { plain "java/time/temporal/TemporalAmount" (some 0) with
  accessFlags := 1537
  interfaces := #[]
  cf := some (fileOf pool5 1 #[] #[] 1537 3 #[] #[])
  fields := #[]
  methods := #[]
  instanceTypes := #[]
  staticTypes := #[]
  resolved := Array.replicate 16 none
  statics := none }

def pool6 : Array CpInfo := pool [(1, .class_ 2), (0, u "java/lang/Comparable"), (0, .class_ 4), (0, u "java/lang/Object")] 7

/-- java/lang/Comparable -/
def k6 : Class := { plain "java/lang/Comparable" (some 0) with
  accessFlags := 1537
  interfaces := #[]
  cf := some (fileOf pool6 1 #[] #[] 1537 3 #[] #[])
  fields := #[]
  methods := #[]
  instanceTypes := #[]
  staticTypes := #[]
  resolved := Array.replicate 12 none
  statics := none }

def pool7 : Array CpInfo := pool [(1, .class_ 2), (0, u "java/io/Serializable"), (0, .class_ 4), (0, u "java/lang/Object")] 2

/-- java/io/Serializable -/
def k7 : Class := { plain "java/io/Serializable" (some 0) with
  accessFlags := 1537
  interfaces := #[]
  cf := some (fileOf pool7 1 #[] #[] 1537 3 #[] #[])
  fields := #[]
  methods := #[]
  instanceTypes := #[]
  staticTypes := #[]
  resolved := Array.replicate 7 none
  statics := none }

def pool8 : Array CpInfo := pool [(10, .methodref 11 12), (0, .class_ 13), (0, .nameAndType 14 15), (0, u "java/time/Duration"), (0, u "create"), (0, u "(JI)Ljava/time/Duration;"), (16, .fieldref 11 33), (0, .nameAndType 34 35), (0, u "ZERO"), (0, u "Ljava/time/Duration;"), (13, .class_ 51), (1, u "java/time/temporal/TemporalAmount"), (27, .class_ 81), (1, u "java/time/Duration$Lazy"), (35, u "seconds"), (21, u "<init>"), (17, .nameAndType 139 158), (0, u "()V"), (19, u "ofSeconds"), (20, u "(J)Ljava/time/Duration;"), (15, .methodref 11 216), (0, .nameAndType 139 217), (0, u "(JI)V"), (0, .methodref 219 157), (0, .class_ 220), (0, u "java/lang/Object"), (0, .fieldref 11 222), (0, .nameAndType 117 223), (0, u "J"), (0, .fieldref 11 225), (0, .nameAndType 226 227), (0, u "nanos"), (0, u "I"), (11, .class_ 241), (1, u "java/time/Duration$DurationUnits"), (8, u "getSeconds"), (0, u "()J"), (17, .class_ 271), (1, u "java/time/Duration$1"), (91, u "BI_NANOS_PER_SECOND"), (0, u "Ljava/math/BigInteger;"), (120, .class_ 486), (0, u "java/lang/Comparable"), (0, .class_ 488), (0, u "java/io/Serializable"), (0, u "serialVersionUID")] 166

def k8c0 : Code := { maxStack := 3, maxLocals := 2, code := jdk_2316_method_4_code, exceptionTable := #[], attributes := #[] }
def k8m0 : Method := { name := "ofSeconds", desc := "(J)Ljava/time/Duration;", sig := { parameters := [.long], returnType := some (.object "java/time/Duration") }, accessFlags := 9, code := some k8c0 }
def k8c1 : Code := { maxStack := 5, maxLocals := 3, code := jdk_2316_method_16_code, exceptionTable := #[], attributes := #[] }
def k8m1 : Method := { name := "create", desc := "(JI)Ljava/time/Duration;", sig := { parameters := [.long, .int], returnType := some (.object "java/time/Duration") }, accessFlags := 10, code := some k8c1 }
def k8c2 : Code := { maxStack := 3, maxLocals := 4, code := jdk_2316_method_17_code, exceptionTable := #[], attributes := #[] }
def k8m2 : Method := { name := "<init>", desc := "(JI)V", sig := { parameters := [.long, .int], returnType := none }, accessFlags := 2, code := some k8c2 }
def k8c3 : Code := { maxStack := 2, maxLocals := 1, code := jdk_2316_method_23_code, exceptionTable := #[], attributes := #[] }
def k8m3 : Method := { name := "getSeconds", desc := "()J", sig := { parameters := [], returnType := some .long }, accessFlags := 1, code := some k8c3 }
/-- java/time/Duration -/
def k8 : Class := { plain "java/time/Duration" (some 0) with
  accessFlags := 49
  interfaces := #[5, 6, 7]
  cf := some (fileOf pool8 11 #[.nestMembers #[269, 239, 79]] #[{ accessFlags := 9, nameIndex := 178, descriptorIndex := 199, attributes := #[] }, { accessFlags := 10, nameIndex := 14, descriptorIndex := 15, attributes := #[] }, { accessFlags := 2, nameIndex := 139, descriptorIndex := 217, attributes := #[] }, { accessFlags := 1, nameIndex := 250, descriptorIndex := 251, attributes := #[] }] 49 219 #[49, 485, 487] #[{ accessFlags := 25, nameIndex := 34, descriptorIndex := 35, attributes := #[] }, { accessFlags := 26, nameIndex := 489, descriptorIndex := 223, attributes := #[] }, { accessFlags := 26, nameIndex := 363, descriptorIndex := 364, attributes := #[] }, { accessFlags := 18, nameIndex := 117, descriptorIndex := 223, attributes := #[] }, { accessFlags := 18, nameIndex := 226, descriptorIndex := 227, attributes := #[] }])
  fields := #[{ name := "ZERO", type := (.object "java/time/Duration"), accessFlags := 25, slot := 0, constantValue := 0 }, { name := "serialVersionUID", type := .long, accessFlags := 26, slot := 1, constantValue := 0 }, { name := "BI_NANOS_PER_SECOND", type := (.object "java/math/BigInteger"), accessFlags := 26, slot := 2, constantValue := 0 }, { name := "seconds", type := .long, accessFlags := 18, slot := 0, constantValue := 0 }, { name := "nanos", type := .int, accessFlags := 18, slot := 1, constantValue := 0 }]
  methods := #[k8m0, k8m1, k8m2, k8m3]
  instanceTypes := #[.long, .int]
  staticTypes := #[(.object "java/time/Duration"), .long, (.object "java/math/BigInteger")]
  resolved := Array.replicate 656 none
  statics := some 0 }

def pool9 : Array CpInfo := pool [(1, u "java/lang/Cloneable"), (0, .class_ 1), (0, u "java/lang/Object"), (0, .class_ 3)] 3

/-- java/lang/Cloneable -/
def k9 : Class := { plain "java/lang/Cloneable" (some 0) with
  accessFlags := 1537
  interfaces := #[]
  cf := some (fileOf pool9 2 #[] #[] 1537 4 #[] #[])
  fields := #[]
  methods := #[]
  instanceTypes := #[]
  staticTypes := #[]
  resolved := Array.replicate 8 none
  statics := none }

/-- the primitive byte -/
def k10 : Class := { plain "byte" none with kind := .primitive 'B', accessFlags := 0x411 }
/-- [B -/
def k11 : Class := { plain "[B" (some 0) with kind := .array 10 .byte, interfaces := #[9, 7], accessFlags := 1041 }

/-- the primitive int -/
def k12 : Class := { plain "int" none with kind := .primitive 'I', accessFlags := 0x411 }
/-- [I -/
def k13 : Class := { plain "[I" (some 0) with kind := .array 12 .int, interfaces := #[9, 7], accessFlags := 1041 }

def heap : Heap := #[{ cls := 8, slots := #[.ref 1, .long 0, .null], vm := .statics 8 },
  { cls := 8, slots := #[.long 0, .int 0], vm := .none }]
def classes : Array Class := #[k0, k1, k2, k3, k4, k5, k6, k7, k8, k9, k10, k11, k12, k13]
def interned : List (Array UInt16 × Addr) := []
def slotsUsed : Nat := 5
def theMethod : MethodId := ⟨1, 1⟩
def args0 : Array Value := #[.long 5, .long 7, .long 100, .int 3, .int 4]
def aboutOver (below : List Frame) : State where
  vm := { classes := classes, interned := interned.toArray }
  heap := heap
  slotsUsed := slotsUsed
  threads := #[{ frames := .invoking theMethod args0 :: below }]
def below0 : List Frame := [.native { method := ⟨0, 0⟩, args := #[] }]
def about1 : State := aboutOver below0
def p0 : Program := .bare "" "" ""
def e0 : Env := launch0.env 0 0 0
theorem w_frames : about1.frames = Frame.invoking theMethod args0 :: below0 := rfl
set_option maxRecDepth 65536 in
theorem w_args : argsFit about1.vm theMethod args0 = true := by decide +kernel
set_option maxRecDepth 65536 in
theorem w_heap : heapFits about1 = true := by decide +kernel
set_option maxRecDepth 65536 in
theorem w_runnable : about1.curStatus? = some .runnable := by decide +kernel
set_option maxRecDepth 65536 in
theorem w_alone : about1.alone = true := by decide +kernel
set_option maxRecDepth 65536 in
theorem w_named : about1.methodNamed? x = some theMethod := by decide +kernel
set_option maxRecDepth 65536 in
theorem w_hears : about1.hears theMethod below0 = true := by decide +kernel
set_option maxRecDepth 65536 in
theorem w_ripe : about1.ripe theMethod args0 below0 = true := by decide +kernel
theorem w_running : about1.status = .running := rfl
set_option maxRecDepth 65536 in
theorem w_room : about1.hasRoom e0.platform room_1 = true :=
  launch0.hasRoom_least _ room_1 (by decide +kernel) (by decide +kernel) (by decide +kernel) (by decide +kernel) (by decide +kernel) (by decide +kernel)
theorem allAtoms_all (ts : List Jvm.Cond) (a : Array Jvm.Value) (st : Jvm.State) : (allAtoms ts).before a st = ts.all (fun c => c.before a st) := by
  induction ts with
  | nil => rfl
  | cons c t ih =>
    show (Jvm.Cond.and c (allAtoms t)).before a st = _
    rw [Jvm.Cond.before_and, ih, List.all_cons]
def words1 : List Jvm.Cond := Jvm.Cond.code x code maxLocals ret :: tables_1
/-- a 'code' word, met by the world's own term for the bytes: nothing is compared byte by byte -/
theorem code_word {y : MethodName} {bytes : ByteArray} {mx : Nat} {rt : Option FieldType} {a : Array Value} {s : State} {m : MethodId} {meth : Method} {c : Code} (h1 : s.methodNamed? y = some m) (h2 : s.vm.method? m = some meth) (h3 : meth.code = some c) (h4 : c.code = bytes)
    (h5 : (c.maxLocals == mx && c.exceptionTable.isEmpty && decide (c.maxStack ≤ mostOperands) && decide (meth.sig.returnType = rt) && !meth.locks && decide (parseMethodDescriptor y.desc = some meth.sig)) = true) : (Jvm.Cond.code y bytes mx rt).before a s = true := by
  simp only [Bool.and_eq_true, beq_iff_eq, Bool.not_eq_true', decide_eq_true_eq] at h5
  obtain ⟨⟨⟨⟨⟨g1, g2⟩, g3⟩, g4⟩, g5⟩, g6⟩ := h5
  simp [Cond.before, Cond.holds, Cond.value, h1, h2, h3, h4, g1, g2, g3, g4, g5, g6]
def isCode : Jvm.Cond → Bool
  | .code _ _ _ _ => true
  | _ => false
theorem all_split {L : List Jvm.Cond} {P : Jvm.Cond → Bool} (h1 : L.all (fun c => isCode c || P c) = true) (h2 : ∀ c ∈ L.filter isCode, P c = true) : L.all P = true := by
  refine List.all_eq_true.mpr fun c hc => ?_
  have h := List.all_eq_true.mp h1 c hc
  rcases Bool.eq_false_or_eq_true (isCode c) with hi | hi
  · exact h2 c (List.mem_filter.mpr ⟨hc, hi⟩)
  · simpa [hi] using h
set_option maxRecDepth 65536 in
theorem w_c0 : (Jvm.Cond.code x code maxLocals ret).before args0 about1 = true := code_word (m := ⟨1, 1⟩) (meth := k1m1) (c := k1c1) (by decide +kernel) rfl rfl rfl (by decide +kernel)
set_option maxRecDepth 65536 in
theorem w_c1 : (Jvm.Cond.code ({ cls := "java/lang/Math", name := "max", desc := "(JJ)J" } : Jvm.MethodName) jdk_29_method_66_code (4 : Nat) (Option.some Jvm.ClassFile.FieldType.long)).before args0 about1 = true := code_word (m := ⟨2, 2⟩) (meth := k2m2) (c := k2c2) (by decide +kernel) rfl rfl rfl (by decide +kernel)
set_option maxRecDepth 65536 in
theorem w_c2 : (Jvm.Cond.code ({ cls := "java/lang/Math", name := "max", desc := "(II)I" } : Jvm.MethodName) jdk_29_method_65_code (2 : Nat) (Option.some Jvm.ClassFile.FieldType.int)).before args0 about1 = true := code_word (m := ⟨2, 1⟩) (meth := k2m1) (c := k2c1) (by decide +kernel) rfl rfl rfl (by decide +kernel)
set_option maxRecDepth 65536 in
theorem w_c3 : (Jvm.Cond.code ({ cls := "com/example/vervet/vervet/DeliveryPolicy", name := "<init>", desc := "(JJJI)V" } : Jvm.MethodName) prog_2_method_1_code (8 : Nat) (Option.none : Option Jvm.ClassFile.FieldType)).before args0 about1 = true := code_word (m := ⟨4, 0⟩) (meth := k4m0) (c := k4c0) (by decide +kernel) rfl rfl rfl (by decide +kernel)
set_option maxRecDepth 65536 in
theorem w_c4 : (Jvm.Cond.code ({ cls := "java/lang/Record", name := "<init>", desc := "()V" } : Jvm.MethodName) jdk_30_method_1_code (1 : Nat) (Option.none : Option Jvm.ClassFile.FieldType)).before args0 about1 = true := code_word (m := ⟨3, 0⟩) (meth := k3m0) (c := k3c0) (by decide +kernel) rfl rfl rfl (by decide +kernel)
set_option maxRecDepth 65536 in
theorem w_c5 : (Jvm.Cond.code ({ cls := "java/lang/Object", name := "<init>", desc := "()V" } : Jvm.MethodName) object_method_1_code (1 : Nat) (Option.none : Option Jvm.ClassFile.FieldType)).before args0 about1 = true := code_word (m := ⟨0, 0⟩) (meth := k0m0) (c := k0c0) (by decide +kernel) rfl rfl rfl (by decide +kernel)
set_option maxRecDepth 65536 in
theorem w_c6 : (Jvm.Cond.code ({ cls := "com/example/vervet/vervet/DeliveryPolicy", name := "waitBefore", desc := "(I)Ljava/time/Duration;" } : Jvm.MethodName) prog_2_method_2_code (5 : Nat) (Option.some (Jvm.ClassFile.FieldType.object "java/time/Duration"))).before args0 about1 = true := code_word (m := ⟨4, 1⟩) (meth := k4m1) (c := k4c1) (by decide +kernel) rfl rfl rfl (by decide +kernel)
set_option maxRecDepth 65536 in
theorem w_c7 : (Jvm.Cond.code ({ cls := "java/time/Duration", name := "ofSeconds", desc := "(J)Ljava/time/Duration;" } : Jvm.MethodName) jdk_2316_method_4_code (2 : Nat) (Option.some (Jvm.ClassFile.FieldType.object "java/time/Duration"))).before args0 about1 = true := code_word (m := ⟨8, 0⟩) (meth := k8m0) (c := k8c0) (by decide +kernel) rfl rfl rfl (by decide +kernel)
set_option maxRecDepth 65536 in
theorem w_c8 : (Jvm.Cond.code ({ cls := "java/time/Duration", name := "create", desc := "(JI)Ljava/time/Duration;" } : Jvm.MethodName) jdk_2316_method_16_code (3 : Nat) (Option.some (Jvm.ClassFile.FieldType.object "java/time/Duration"))).before args0 about1 = true := code_word (m := ⟨8, 1⟩) (meth := k8m1) (c := k8c1) (by decide +kernel) rfl rfl rfl (by decide +kernel)
set_option maxRecDepth 65536 in
theorem w_c9 : (Jvm.Cond.code ({ cls := "java/time/Duration", name := "<init>", desc := "(JI)V" } : Jvm.MethodName) jdk_2316_method_17_code (4 : Nat) (Option.none : Option Jvm.ClassFile.FieldType)).before args0 about1 = true := code_word (m := ⟨8, 2⟩) (meth := k8m2) (c := k8c2) (by decide +kernel) rfl rfl rfl (by decide +kernel)
set_option maxRecDepth 65536 in
theorem w_c10 : (Jvm.Cond.code ({ cls := "java/time/Duration", name := "getSeconds", desc := "()J" } : Jvm.MethodName) jdk_2316_method_23_code (1 : Nat) (Option.some Jvm.ClassFile.FieldType.long)).before args0 about1 = true := code_word (m := ⟨8, 3⟩) (meth := k8m3) (c := k8c3) (by decide +kernel) rfl rfl rfl (by decide +kernel)
set_option maxRecDepth 65536 in
theorem w_c11 : (Jvm.Cond.code ({ cls := "com/example/vervet/vervet/DeliveryPolicyWaitBeforePinLaw", name := "expected", desc := "(JJI)J" } : Jvm.MethodName) method_3_code (7 : Nat) (Option.some Jvm.ClassFile.FieldType.long)).before args0 about1 = true := code_word (m := ⟨1, 2⟩) (meth := k1m2) (c := k1c2) (by decide +kernel) rfl rfl rfl (by decide +kernel)
def codes1 : List Jvm.Cond := [Jvm.Cond.code x code maxLocals ret, Jvm.Cond.code ({ cls := "java/lang/Math", name := "max", desc := "(JJ)J" } : Jvm.MethodName) jdk_29_method_66_code (4 : Nat) (Option.some Jvm.ClassFile.FieldType.long), Jvm.Cond.code ({ cls := "java/lang/Math", name := "max", desc := "(II)I" } : Jvm.MethodName) jdk_29_method_65_code (2 : Nat) (Option.some Jvm.ClassFile.FieldType.int), Jvm.Cond.code ({ cls := "com/example/vervet/vervet/DeliveryPolicy", name := "<init>", desc := "(JJJI)V" } : Jvm.MethodName) prog_2_method_1_code (8 : Nat) (Option.none : Option Jvm.ClassFile.FieldType), Jvm.Cond.code ({ cls := "java/lang/Record", name := "<init>", desc := "()V" } : Jvm.MethodName) jdk_30_method_1_code (1 : Nat) (Option.none : Option Jvm.ClassFile.FieldType), Jvm.Cond.code ({ cls := "java/lang/Object", name := "<init>", desc := "()V" } : Jvm.MethodName) object_method_1_code (1 : Nat) (Option.none : Option Jvm.ClassFile.FieldType), Jvm.Cond.code ({ cls := "com/example/vervet/vervet/DeliveryPolicy", name := "waitBefore", desc := "(I)Ljava/time/Duration;" } : Jvm.MethodName) prog_2_method_2_code (5 : Nat) (Option.some (Jvm.ClassFile.FieldType.object "java/time/Duration")), Jvm.Cond.code ({ cls := "java/time/Duration", name := "ofSeconds", desc := "(J)Ljava/time/Duration;" } : Jvm.MethodName) jdk_2316_method_4_code (2 : Nat) (Option.some (Jvm.ClassFile.FieldType.object "java/time/Duration")), Jvm.Cond.code ({ cls := "java/time/Duration", name := "create", desc := "(JI)Ljava/time/Duration;" } : Jvm.MethodName) jdk_2316_method_16_code (3 : Nat) (Option.some (Jvm.ClassFile.FieldType.object "java/time/Duration")), Jvm.Cond.code ({ cls := "java/time/Duration", name := "<init>", desc := "(JI)V" } : Jvm.MethodName) jdk_2316_method_17_code (4 : Nat) (Option.none : Option Jvm.ClassFile.FieldType), Jvm.Cond.code ({ cls := "java/time/Duration", name := "getSeconds", desc := "()J" } : Jvm.MethodName) jdk_2316_method_23_code (1 : Nat) (Option.some Jvm.ClassFile.FieldType.long), Jvm.Cond.code ({ cls := "com/example/vervet/vervet/DeliveryPolicyWaitBeforePinLaw", name := "expected", desc := "(JJI)J" } : Jvm.MethodName) method_3_code (7 : Nat) (Option.some Jvm.ClassFile.FieldType.long)]
set_option maxRecDepth 65536 in
theorem codes_eq : words1.filter isCode = codes1 := rfl
theorem w_codes : ∀ c ∈ words1.filter isCode, c.before args0 about1 = true := by
  rw [codes_eq]
  intro c hc
  simp only [codes1, List.mem_cons, List.not_mem_nil, or_false] at hc
  rcases hc with rfl | rfl | rfl | rfl | rfl | rfl | rfl | rfl | rfl | rfl | rfl | rfl
  · exact w_c0
  · exact w_c1
  · exact w_c2
  · exact w_c3
  · exact w_c4
  · exact w_c5
  · exact w_c6
  · exact w_c7
  · exact w_c8
  · exact w_c9
  · exact w_c10
  · exact w_c11
set_option maxRecDepth 65536 in
theorem w_t1 : (words1.take 24).all (fun c => isCode c || c.before args0 about1) = true := by decide +kernel
set_option maxRecDepth 65536 in
theorem w_t2 : ((words1.drop 24).take 24).all (fun c => isCode c || c.before args0 about1) = true := by decide +kernel
set_option maxRecDepth 65536 in
theorem w_t3 : ((words1.drop 24).drop 24).all (fun c => isCode c || c.before args0 about1) = true := by decide +kernel
theorem w_tables : (allAtoms (Jvm.Cond.code x code maxLocals ret :: tables_1)).before args0 about1 = true := by
  rw [allAtoms_all]
  show words1.all (fun c => c.before args0 about1) = true
  refine all_split ?_ w_codes
  rw [← List.take_append_drop 24 words1, List.all_append, w_t1, ← List.take_append_drop 24 (words1.drop 24), List.all_append, w_t2, w_t3]
  rfl
set_option maxRecDepth 65536 in
theorem w_rest : rest_1_c.before args0 about1 = true := by decide +kernel
set_option maxRecDepth 65536 in
theorem w_case : (Jvm.Cond.and given_1 narrow_1).before args0 about1 = true := by decide +kernel
theorem w_applies : (headSpec (Jvm.Cond.code x code maxLocals ret :: tables_1) room_1).applies x e0.platform about1 = true :=
  (Spec.applies_iff w_frames).mpr ⟨w_running, w_runnable, w_alone, w_named, w_hears, w_ripe, w_room, w_tables⟩
theorem atStart : AtStart classFile x code maxLocals ret World_1 tables_1 room_1 Calls_1 rest_1 Pre_1 launch0 p0 e0 about1 theMethod args0 below0 :=
  ⟨lists_1, trivial, launch0.admits_env _ _ _, launch0.least_env, fairChoices_fair.cas, fairChoices_fair.clock, w_frames, w_args, w_heap, w_applies, trivial, w_rest, w_case⟩
end start1
theorem witness_1 : WitnessClaimed_1 := ⟨start1.p0, start1.e0, start1.about1, start1.theMethod, start1.args0, start1.below0, start1.atStart⟩
end Jvm.Pilot.@@N@@
